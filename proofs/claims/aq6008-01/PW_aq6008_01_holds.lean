import PyProof.Rows.All
import Wide.All
import OpenK.AllK
import Wide.FinOn
import PySem.Challenge.RW_aq6008_01
set_option Elab.async false
section
open PySem PySem.W PyProof.Rows
namespace Mine
set_option maxRecDepth 100000
set_option maxHeartbeats 8000000
open_top hd for PySem.Challenge.rw_aq6008_01
end Mine
end
section
open PySem PySem.W PyProof.Rows
namespace Mine

/-- the years' long ones ahead, as the law reckons -/
def ahead (r y : Int) : Int :=
  if r = 0 ∨ (r = 1 ∧ y < 15) ∨ (r = 2 ∧ y < 17) then y / 4
  else if r = 1 then (y - 1) / 4 - (y - 13) / 100 + (y - 13) / 400 - (y - 13) / 4000
  else (y - 1) / 4 - (y - 17) / 128
/-- the year's first day -/
def firstF (r y : Int) : Int := 2375840 + 365 * (y - 1) + ahead r y

theorem days_of {r y : Int} (h0 : 0 ≤ r) (h2 : r ≤ 2) (hy : 1 ≤ y) : 365 ≤ firstF r (y + 1) - firstF r y ∧ firstF r (y + 1) - firstF r y ≤ 366 := by
  have hr : r = 0 ∨ r = 1 ∨ r = 2 := by omega
  unfold firstF ahead
  rcases hr with rfl | rfl | rfl
  · simp; omega
  · simp
    split <;> split <;> omega
  · simp
    split <;> split <;> omega

def IsWay (i : Int) (v : Value) : Prop :=
  (i = 0 ∧ ∃ t, v = .str (PySem.Str.ofString "continuous") t) ∨ (i = 1 ∧ ∃ t, v = .int 4 t) ∨
  (i = 2 ∧ ∃ t, v = .str (PySem.Str.ofString "romme") t) ∨ (i = 3 ∧ ∃ t, v = .int 100 t) ∨
  (i = 4 ∧ ∃ t, v = .str (PySem.Str.ofString "madler") t) ∨ (i = 5 ∧ ∃ t, v = .int 128 t)

section
variable (prog : Program) (w : World) (K : Frag) (p : Program) (loose : List PySem.Str) (mean : ExcName → Option Value) (mg mb : PySem.Str → Option Value)
def CTrunc : Prop :=
  ∀ (a b : Int) (ta tb : Tok) (news : List (Addr × Obj)), CbRec prog w K p loose mean mg mb 21 news [] (0 ≤ a ∧ 0 < b ∧ b < 1073741824) 0 [.int a ta, .int b tb] (fun t => .int (a / b) t)
def CFirst : Prop :=
  ∀ (r y : Int) (tr ty : Tok) (news : List (Addr × Obj)), CbRec prog w K p loose mean mg mb 65 news [] True 1 [.int r tr, .int y ty] (fun t => .int (firstF r y) t)
def CTo : Prop :=
  ∀ (i : Int) (v : Value) (y mo d : Int) (ty tmo td : Tok) (news : List (Addr × Obj)), IsWay i v →
    CbRec prog w K p loose mean mg mb 28 news [] (1 ≤ y) 2 [.int y ty, .int mo tmo, .int d td, v] (fun t => .int (firstF (Int.fdiv i 2) y + 30 * (mo - 1) + (d - 1)) t)
end

section
variable {prog : Program} {w : World} {K : Frag} {p : Program} {loose : List PySem.Str} {mean : ExcName → Option Value} {mg mb : PySem.Str → Option Value} {f : Addr} {news : List (Addr × Obj)} {pre : Prop} {sz : Nat} {vs : List Value} {R : Tok → Value}
  {dp un : Nat} {gd : Option (List Code)} {cn : PySem.Str} {cs : Scope} {a : Addr} {ccd : Value} {cl : List (PySem.Str × Addr)} {outer : List Env} {A₀ : Around} {base h₀ : Heap} {L : Addr} {m : PySem.Str → Option Value} {s : Shared} {Q E : Value → Shared → Prop}
theorem use_I (C : CbRec prog w K p loose mean mg mb f news [] pre sz vs R)
    (B : Below A₀ base outer h₀) (F : Fr h₀ L s.heap m) (X : K.In h₀) (N : News h₀ L s.heap news) (T : Top p loose mean mg mb h₀) (hk : cs.kind = .function)
    (hp : pre) (hd : dp + sz + 1 < recursionLimit) (hu : un + 8 * (sz + 1) < cLine)
    (ret : ∀ (t : Tok) (h' : Heap) (tk' : Nat), Fr h₀ L h' m → News h₀ L h' news → Q (R t) { s with heap := h', toks := tk' }) :
    wpAny (model prog w) (ktrTop dp un gd cn cs L a ccd cl outer) (call (.ref f) vs) Q E s :=
  C dp un gd cn cs a ccd cl outer A₀ base h₀ L m s Q E B F X N T hk hp hd hu ret
theorem end_I {h' : Heap} {x y : Int} {t : Tok} {tk' : Nat}
    (hret : ∀ (t : Tok) (h' : Heap) (tk' : Nat), Fr h₀ L h' m → News h₀ L h' news → Q (.int x t) { s with heap := h', toks := tk' })
    (F : Fr h₀ L h' m) (N : News h₀ L h' news) (e : y = x) : Q (.int y t) { s with heap := h', toks := tk' } := by
  subst e
  exact hret t h' tk' F N
end
end Mine
end
section
open PySem PySem.W PyProof.Rows
namespace Mine
section
variable {prog : Program} {w : World} {A : Around} {E : Value → Shared → Prop} {s : Shared}
/-- an item is asked against x: the answer is b -/
def Asks (prog : Program) (w : World) (y x : Value) (b : Bool) : Prop :=
  ∀ (A : Around) (E : Value → Shared → Prop) (s : Shared) (Q : Bool → Shared → Prop), Q b s → wpAny (model prog w) A (eqBool y x) Q E s
theorem asks_ii (a x : Int) (t u : Tok) : Asks prog w (.int a t) (.int x u) (a == x) := fun _ _ _ _ h => wpAny_eqBool_int h
theorem asks_ss (a x : PySem.Str) (t u : Tok) : Asks prog w (.str a t) (.str x u) (a == x) := fun _ _ _ _ h => eqBool_str h
theorem asks_is (a : Int) (x : PySem.Str) (t u : Tok) : Asks prog w (.int a t) (.str x u) false := fun A E s Q h => by
  unfold eqBool
  refine wpAny_holding ?_
  by_cases hab : (Value.int a t == Value.str x u) = true
  · have e := eq_of_beq hab
    cases e
  rw [if_neg hab]
  exact wpAny_bind (EqMixed.eq_int_str (wpAny_truthy_bool h))
theorem asks_si (a : PySem.Str) (x : Int) (t u : Tok) : Asks prog w (.str a t) (.int x u) false := fun A E s Q h => by
  unfold eqBool
  refine wpAny_holding ?_
  by_cases hab : (Value.str a t == Value.int x u) = true
  · have e := eq_of_beq hab
    cases e
  rw [if_neg hab]
  exact wpAny_bind (EqMixed.eq_str_int (wpAny_truthy_bool h))

inductive AskAll (prog : Program) (w : World) (x : Value) : List Value → List Bool → Prop
  | nil : AskAll prog w x [] []
  | cons {y : Value} {b : Bool} {vs : List Value} {bs : List Bool} : Asks prog w y x b → AskAll prog w x vs bs → AskAll prog w x (y :: vs) (b :: bs)

theorem tuple_contains_mix {t : Addr} {items : Array Value} {bs : List Bool} {x : Value} {P : Fin → Shared → Prop} (ht : IsTup s.heap t items) (hi : AskAll prog w x items.toList bs)
    (h : P (.done (.ret (.bool (bs.any id)))) s) : wpAny (model prog w) A (Builtin.«tuple.__contains__» ⟨[.ref t, x], []⟩) P E s := by
  show wpAny _ _ (Builtin.Tuple.tupleItemsOf (.ref t) >>= _) _ _ s
  refine wpAny_bind (tupleItemsOf_ ht ?_)
  refine wpAny_bind (forIn_array_ _ (fun rest b s' => b.1 = none ∧ s' = s ∧ ∃ ms, AskAll prog w x rest ms ∧ P (.done (.ret (.bool (ms.any id)))) s) _ ?_ ?_ items _ ⟨rfl, rfl, bs, hi, h⟩)
  · rintro y rest b s' ⟨hb, rfl, ms, hm, hP⟩
    cases hm with
    | cons hy hm' =>
      refine wpAny_bind (hy _ _ _ _ ?_)
      rw [List.any_cons] at hP
      rename_i b0 bs0
      cases hnx : b0 with
      | true =>
        rw [hnx] at hP
        exact wpAny_bind (wpAny_pure (wpAny_pure (wpAny_pure (by simpa using hP))))
      | false =>
        rw [hnx] at hP
        exact wpAny_pure ⟨rfl, rfl, _, hm', by simpa using hP⟩
  · rintro ⟨b1, b2⟩ s' ⟨hb, rfl, ms, hm, hP⟩
    cases hm
    simp only at hb
    subst hb
    exact wpAny_pure (by simpa using hP)

theorem contains_tuple_mix {t : Addr} {items : Array Value} {bs : List Bool} {x : Value} {Q : Bool → Shared → Prop} (ht : IsTup s.heap t items) (hi : AskAll prog w x items.toList bs)
    (h : Q (bs.any id) s) : wpAny (model prog w) A (contains (.ref t) x) Q E s := by
  unfold contains
  refine wpAny_holding ?_
  refine wpAny_bind (wpAny_specialOf ht.typeIs slot_tuple_contains.lookup ?_)
  rw [if_neg (by decide)]
  exact wpAny_bind (wpAny_callSpecialUnlessNone?_slot (name := PySem.Str.ofString "__contains__") ht.typeIs slot_tuple_contains
    (wpAny_call_entry slot_tuple_contains ht.typeIs entry_tuple_contains (tuple_contains_mix ht hi ⟨_, rfl, wpAny_truthy_bool h⟩) (args_tuple_contains _ _)))

theorem in_tuple_mix {t : Addr} {items : Array Value} {bs : List Bool} {x : Value} {Q : Value → Shared → Prop} (b : Bool) (ht : IsTup s.heap t items) (hi : AskAll prog w x items.toList bs)
    (hb : bs.any id = b) (h : Q (.bool b) s) : wpAny (model prog w) A (compareOp .In x (.ref t)) Q E s := by
  subst hb
  show wpAny _ _ (do return .bool (← contains (.ref t) x)) Q E s
  exact wpAny_bind (contains_tuple_mix ht hi (wpAny_pure h))
end
end Mine
end
section
open PySem PySem.W PyProof.Rows PySem.Spec PySem.Calls
namespace Mine

/-! what is known of a frame's names -/
inductive V where
  | unset
  | int (n : Int)
  | none
  | is (v : Value)
def V.ok : V → Option Value → Prop
  | .unset, _ => True
  | .int n, o => ∃ t, o = some (.int n t)
  | .none, o => o = some Value.none
  | .is v, o => o = some v
def Has (m : PySem.Str → Option Value) : List PySem.Str → List V → Prop
  | k :: ks, v :: vs => v.ok (m k) ∧ Has m ks vs
  | _, _ => True
inductive GetAt : List PySem.Str → List V → PySem.Str → V → Prop
  | head {x : PySem.Str} {ks : List PySem.Str} {v : V} {vs : List V} : GetAt (x :: ks) (v :: vs) x v
  | tail {k x : PySem.Str} {ks : List PySem.Str} {u v : V} {vs : List V} : GetAt ks vs x v → GetAt (k :: ks) (u :: vs) x v
inductive SetAt : List PySem.Str → List V → PySem.Str → V → List V → Prop
  | head {x : PySem.Str} {ks : List PySem.Str} {u v : V} {vs : List V} : SetAt (x :: ks) (u :: vs) x v (v :: vs)
  | tail {k x : PySem.Str} {ks : List PySem.Str} {u v : V} {vs vs' : List V} : SetAt ks vs x v vs' → SetAt (k :: ks) (u :: vs) x v (u :: vs')
inductive SetAll (ks : List PySem.Str) : List V → List PySem.Str → List V → List V → Prop
  | nil {vs : List V} : SetAll ks vs [] [] vs
  | cons {vs vs1 vs2 : List V} {x : PySem.Str} {xs : List PySem.Str} {u : V} {us : List V} : SetAt ks vs x u vs1 → SetAll ks vs1 xs us vs2 → SetAll ks vs (x :: xs) (u :: us) vs2

theorem GetAt.ok {m : PySem.Str → Option Value} {ks : List PySem.Str} {vs : List V} {x : PySem.Str} {v : V} (g : GetAt ks vs x v) : Has m ks vs → v.ok (m x) := by
  induction g with
  | head => exact fun h => h.1
  | tail _ ih => exact fun h => ih h.2
theorem GetAt.mem {ks : List PySem.Str} {vs : List V} {x : PySem.Str} {v : V} (g : GetAt ks vs x v) : x ∈ ks := by
  induction g with
  | head => exact .head _
  | tail _ ih => exact .tail _ ih
theorem SetAt.mem {ks : List PySem.Str} {vs vs' : List V} {x : PySem.Str} {v : V} (g : SetAt ks vs x v vs') : x ∈ ks := by
  induction g with
  | head => exact .head _
  | tail _ ih => exact .tail _ ih
theorem Has.congr {m m' : PySem.Str → Option Value} : ∀ {ks : List PySem.Str} {vs : List V}, (∀ k ∈ ks, m' k = m k) → Has m ks vs → Has m' ks vs
  | [], _, _, _ => trivial
  | _ :: _, [], _, _ => trivial
  | k :: ks, v :: vs, e, h => ⟨by rw [e k (.head _)]; exact h.1, Has.congr (fun k hk => e k (.tail _ hk)) h.2⟩
theorem Has.set {m : PySem.Str → Option Value} {ks : List PySem.Str} {vs vs' : List V} {x : PySem.Str} {v : V} {u : Value} (g : SetAt ks vs x v vs') : ks.Nodup → Has m ks vs → v.ok (some u) →
    Has (fun y => if y = x then some u else m y) ks vs' := by
  induction g with
  | head =>
    intro hn h hv
    refine ⟨?_, Has.congr (fun k hk => ?_) h.2⟩
    · dsimp only
      rw [if_pos rfl]
      exact hv
    · have hx := (List.nodup_cons.mp hn).1
      exact if_neg (by intro e; subst e; exact hx hk)
  | tail s ih =>
    intro hn h hv
    refine ⟨?_, ih (List.nodup_cons.mp hn).2 h.2 hv⟩
    have hx := (List.nodup_cons.mp hn).1
    dsimp only
    rw [if_neg (by intro e; subst e; exact hx s.mem)]
    exact h.1

/-- where a body runs -/
structure Cx where
  prog : Program
  w : World
  A : Around
  cn : PySem.Str
  cs : Scope
  L : Addr
  a : Addr
  ccd : Value
  g : Heap
  ks : List PySem.Str
  news : List (Addr × Obj)
  K : Frag
abbrev Cx.M (c : Cx) : Model := model c.prog c.w
abbrev Cx.env (c : Cx) : Env := envOf c.cn c.cs c.L c.a c.ccd
structure Cx.Good (c : Cx) (ks : List PySem.Str) : Prop where
  eq : c.ks = ks
  kind : c.cs.kind = .function
  nodup : c.ks.Nodup
  loc : ∀ x ∈ c.ks, c.cs.names.lookup x = some .local ∧ (x == ("__debug__" : PySem.Str)) = false
  hX : c.K.In c.g
  hA : c.A.handled = none
  top : ∃ p loose mg mb, TopRead p loose mg mb c.g
theorem Cx.Good.get {c : Cx} {ks : List PySem.Str} (G : c.Good ks) {vs : List V} {x : PySem.Str} {v : V} (g : GetAt ks vs x v) : GetAt c.ks vs x v := G.eq ▸ g
theorem Cx.Good.put {c : Cx} {ks : List PySem.Str} (G : c.Good ks) {vs vs' : List V} {x : PySem.Str} {v : V} (g : SetAt ks vs x v vs') : SetAt c.ks vs x v vs' := G.eq ▸ g
/-- a global name's value -/
def Glo (c : Cx) (x : PySem.Str) (v : Value) : Prop := nsIn c.K mainGlobals x = some (some v) ∧ c.cs.names.lookup x = some .globalImplicit ∧ (x == ("__debug__" : PySem.Str)) = false

def Ev (c : Cx) (vs : List V) (e : Expr) (n : Int) : Prop :=
  ∀ (E : Value → Shared → Prop) (m : PySem.Str → Option Value) (h : Heap) (gs : Array GenState) (d : Drawn) (tk : Nat) (o : OsState) (Q : Value → Shared → Prop),
    Fr c.g c.L h m → Has m c.ks vs → News c.g c.L h c.news →
    (∀ (t : Tok) (h' : Heap) (tk' : Nat), Fr c.g c.L h' m → News c.g c.L h' c.news → Q (.int n t) ⟨h', gs, d, tk', o⟩) →
    wpAny c.M c.A (eval e c.env) Q E ⟨h, gs, d, tk, o⟩
def Te (c : Cx) (vs : List V) (e : Expr) (whole : Sem Value) (b : Bool) : Prop :=
  ∀ (E : Value → Shared → Prop) (m : PySem.Str → Option Value) (h : Heap) (gs : Array GenState) (d : Drawn) (tk : Nat) (o : OsState) (Q : Bool → Shared → Prop),
    Fr c.g c.L h m → Has m c.ks vs → News c.g c.L h c.news →
    (∀ (h' : Heap) (tk' : Nat), Fr c.g c.L h' m → News c.g c.L h' c.news → Q b ⟨h', gs, d, tk', o⟩) →
    wpAny c.M c.A (isTrue e c.env whole) Q E ⟨h, gs, d, tk, o⟩

section
variable {c : Cx} {vs : List V}

theorem name_loc {ks : List PySem.Str} (G : c.Good ks) {x : PySem.Str} {pos : Pos} {v : Value} {E : Value → Shared → Prop} {m : PySem.Str → Option Value} {s : Shared} {Q : Value → Shared → Prop}
    (F : Fr c.g c.L s.heap m) (hx : x ∈ c.ks) (hv : m x = some v) (h : Q v s) : wpAny c.M c.A (eval (.Name x pos) c.env) Q E s :=
  nameX_L (cl := []) F hv h G.kind (G.loc x hx).1 (G.loc x hx).2
theorem name_glo {ks : List PySem.Str} (G : c.Good ks) {x : PySem.Str} {pos : Pos} {v : Value} {E : Value → Shared → Prop} {m : PySem.Str → Option Value} {s : Shared} {Q : Value → Shared → Prop}
    (F : Fr c.g c.L s.heap m) (g : Glo c x v) (h : Q v s) : wpAny c.M c.A (eval (.Name x pos) c.env) Q E s := by
  obtain ⟨p, loose, mg, mb, T⟩ := G.top
  exact nameX_K (cl := []) F G.hX T g.1 h G.kind g.2.1 g.2.2

theorem ev_const {n : Int} {k : Nat} {pos : Pos} : Ev c vs (.Constant (.int n) k pos) n := fun _ _ _ _ _ _ _ _ F _ N ret =>
  wpAny_Constant_int (ret _ _ _ F N)
theorem ev_loc {ks : List PySem.Str} (G : c.Good ks) {x : PySem.Str} {pos : Pos} {n : Int} (g : GetAt ks vs x (.int n)) : Ev c vs (.Name x pos) n := fun _ _ _ _ _ _ _ _ F H N ret => by
  obtain ⟨t, ht⟩ := (G.get g).ok H
  exact name_loc G F (G.get g).mem ht (ret _ _ _ F N)
theorem ev_glo {ks : List PySem.Str} (G : c.Good ks) {x : PySem.Str} {pos : Pos} {n : Int} {t : Tok} (g : Glo c x (.int n t)) : Ev c vs (.Name x pos) n := fun _ _ _ _ _ _ _ _ F _ N ret =>
  name_glo G F g (ret _ _ _ F N)
theorem ev_add {e1 e2 : Expr} {x y : Int} {pos : Pos} (h1 : Ev c vs e1 x) (h2 : Ev c vs e2 y) : Ev c vs (.BinOp e1 .Add e2 pos) (x + y) := fun _ _ _ _ _ _ _ _ F H N ret =>
  wpAny_BinOp (h1 _ _ _ _ _ _ _ _ F H N fun _ _ _ F N => h2 _ _ _ _ _ _ _ _ F H N fun _ _ _ F N => P.add_int (ret _ _ _ F N))
theorem ev_sub {e1 e2 : Expr} {x y : Int} {pos : Pos} (h1 : Ev c vs e1 x) (h2 : Ev c vs e2 y) : Ev c vs (.BinOp e1 .Sub e2 pos) (x - y) := fun _ _ _ _ _ _ _ _ F H N ret =>
  wpAny_BinOp (h1 _ _ _ _ _ _ _ _ F H N fun _ _ _ F N => h2 _ _ _ _ _ _ _ _ F H N fun _ _ _ F N => P.sub_int (ret _ _ _ F N))
theorem ev_mul {e1 e2 : Expr} {x y : Int} {pos : Pos} (h1 : Ev c vs e1 x) (h2 : Ev c vs e2 y) (hm : IntMulOk x y) : Ev c vs (.BinOp e1 .Mult e2 pos) (x * y) := fun _ _ _ _ _ _ _ _ F H N ret =>
  wpAny_BinOp (h1 _ _ _ _ _ _ _ _ F H N fun _ _ _ F N => h2 _ _ _ _ _ _ _ _ F H N fun _ _ _ F N => P.mul_int (ret _ _ _ F N) hm)
theorem ev_mod {e1 e2 : Expr} {x y : Int} {pos : Pos} (h1 : Ev c vs e1 x) (h2 : Ev c vs e2 y) (hy : 0 < y) : Ev c vs (.BinOp e1 .Mod e2 pos) (x % y) := fun _ _ _ _ _ _ _ _ F H N ret => by
  have e : x.fmod y = x % y := Int.fmod_eq_emod_of_nonneg x (Int.le_of_lt hy)
  exact wpAny_BinOp (h1 _ _ _ _ _ _ _ _ F H N fun _ _ _ F N => h2 _ _ _ _ _ _ _ _ F H N fun _ _ _ F N => mod_int' (Int.ne_of_gt hy) (e ▸ ret _ _ _ F N))
theorem ev_neg {e1 : Expr} {x : Int} {pos : Pos} (h1 : Ev c vs e1 x) : Ev c vs (.UnaryOp .USub e1 pos) (-x) := fun _ _ _ _ _ _ _ _ F H N ret =>
  UnaryOp_ (h1 _ _ _ _ _ _ _ _ F H N fun _ _ _ F N => P.neg_int (ret _ _ _ F N))

/-- the call of the project's trunc, its value -/
def TrOk (c : Cx) (f : Addr) : Prop := ∀ (x y : Int) (tx ty : Tok) (m : PySem.Str → Option Value) (h : Heap) (gs : Array GenState) (d : Drawn) (tk : Nat) (o : OsState) (Q E : Value → Shared → Prop),
  Fr c.g c.L h m → News c.g c.L h c.news → 0 ≤ x → 0 < y → y < 1073741824 →
  (∀ (t : Tok) (h' : Heap) (tk' : Nat), Fr c.g c.L h' m → News c.g c.L h' c.news → Q (.int (x / y) t) ⟨h', gs, d, tk', o⟩) →
  wpAny c.M c.A (call (.ref f) [.int x tx, .int y ty]) Q E ⟨h, gs, d, tk, o⟩
theorem ev_trunc {ks : List PySem.Str} (G : c.Good ks) {fn : PySem.Str} {f : Addr} (g : Glo c fn (.ref f)) (hk : keepIn c.K (.ref f) = true) (R : TrOk c f) {e1 e2 : Expr} {x y : Int} {p1 pos : Pos} (h1 : Ev c vs e1 x) (h2 : Ev c vs e2 y)
    (hx : 0 ≤ x) (hy : 0 < y) (hy2 : y < 1073741824)
    (s1 : ∀ r, starEach (e1 :: r) c.env = (false, eval e1 c.env) :: starEach r c.env) (s2 : ∀ r, starEach (e2 :: r) c.env = (false, eval e2 c.env) :: starEach r c.env) :
    Ev c vs (.Call (.Name fn p1) [e1, e2] [] pos) (x / y) := fun _ _ _ _ _ _ _ _ F H N ret => by
  have hs : (backTo pos (starEach [e2] c.env)).any (·.1) = false := by rw [s2]; rfl
  refine Call_ ?_
  refine name_glo G F g ?_
  refine callWith_K (K := c.K) (h₀ := c.g) G.hX hk ?_ (s1 _) hs
  refine args_cons (h1 _ _ _ _ _ _ _ _ F H N fun _ _ _ F N => ?_) (s1 _)
  refine args_cons (h2 _ _ _ _ _ _ _ _ F H N fun _ _ _ F N => ?_) (s2 _)
  refine args_nil ⟨Frag.In.keeps G.hX F.keep, ?_⟩
  exact R _ _ _ _ _ _ _ _ _ _ _ _ F N hx hy hy2 ret

/-! tests -/
theorem te_lt {e1 e2 : Expr} {x y : Int} {pos : Pos} {whole : Sem Value} (h1 : Ev c vs e1 x) (h2 : Ev c vs e2 y) (hm : behindInMarks .Lt e2 = false) : Te c vs (.Compare e1 [.Lt] [e2] pos) whole (decide (x < y)) := fun _ _ _ _ _ _ _ _ F H N ret =>
  wpAny_isTrue_Compare1 (h1 _ _ _ _ _ _ _ _ F H N fun _ _ _ F N => h2 _ _ _ _ _ _ _ _ F H N fun _ _ _ F N => P.lt_int (wpAny_truthy_bool (ret _ _ F N))) hm
theorem te_le {e1 e2 : Expr} {x y : Int} {pos : Pos} {whole : Sem Value} (h1 : Ev c vs e1 x) (h2 : Ev c vs e2 y) (hm : behindInMarks .LtE e2 = false) : Te c vs (.Compare e1 [.LtE] [e2] pos) whole (decide (x ≤ y)) := fun _ _ _ _ _ _ _ _ F H N ret =>
  wpAny_isTrue_Compare1 (h1 _ _ _ _ _ _ _ _ F H N fun _ _ _ F N => h2 _ _ _ _ _ _ _ _ F H N fun _ _ _ F N => P.le_int (wpAny_truthy_bool (ret _ _ F N))) hm
theorem te_eq {e1 e2 : Expr} {x y : Int} {pos : Pos} {whole : Sem Value} (h1 : Ev c vs e1 x) (h2 : Ev c vs e2 y) (hm : behindInMarks .Eq e2 = false) : Te c vs (.Compare e1 [.Eq] [e2] pos) whole (x == y) := fun _ _ _ _ _ _ _ _ F H N ret =>
  wpAny_isTrue_Compare1 (h1 _ _ _ _ _ _ _ _ F H N fun _ _ _ F N => h2 _ _ _ _ _ _ _ _ F H N fun _ _ _ F N => P.eq_int (wpAny_truthy_bool (ret _ _ F N))) hm
theorem te_and_nil {pos : Pos} {whole : Sem Value} : Te c vs (.BoolOp .And [] pos) whole true := fun _ _ _ _ _ _ _ _ F _ N ret => isTrue_and_nil (ret _ _ F N)
theorem te_or_nil {pos : Pos} {whole : Sem Value} : Te c vs (.BoolOp .Or [] pos) whole false := fun _ _ _ _ _ _ _ _ F _ N ret => isTrue_or_nil (ret _ _ F N)
theorem te_and {x : Expr} {rest : List Expr} {pos : Pos} {whole : Sem Value} {b1 b2 : Bool} (h1 : Te c vs x (eval x c.env) b1) (h2 : Te c vs (.BoolOp .And rest pos) whole b2) : Te c vs (.BoolOp .And (x :: rest) pos) whole (b1 && b2) := fun _ _ _ _ _ _ _ _ F H N ret =>
  isTrue_and (h1 _ _ _ _ _ _ _ _ F H N fun _ _ F N => by
    cases b1 with
    | true => exact h2 _ _ _ _ _ _ _ _ F H N fun _ _ F N => ret _ _ F N
    | false => exact ret _ _ F N)
theorem te_or {x : Expr} {rest : List Expr} {pos : Pos} {whole : Sem Value} {b1 b2 : Bool} (h1 : Te c vs x (eval x c.env) b1) (h2 : Te c vs (.BoolOp .Or rest pos) whole b2) : Te c vs (.BoolOp .Or (x :: rest) pos) whole (b1 || b2) := fun _ _ _ _ _ _ _ _ F H N ret =>
  isTrue_or (h1 _ _ _ _ _ _ _ _ F H N fun _ _ F N => by
    cases b1 with
    | true => exact ret _ _ F N
    | false => exact h2 _ _ _ _ _ _ _ _ F H N fun _ _ F N => ret _ _ F N)
theorem te_none {ks : List PySem.Str} (G : c.Good ks) {x : PySem.Str} {pos : Pos} (g : GetAt ks vs x .none) : Te c vs (.Name x pos) (eval (.Name x pos) c.env) false := fun _ _ _ _ _ _ _ _ F H N ret =>
  isTrue_plain (name_loc G F (G.get g).mem ((G.get g).ok H) (truthy_none (ret _ _ F N)))
theorem te_int {ks : List PySem.Str} (G : c.Good ks) {x : PySem.Str} {pos : Pos} {n : Int} (g : GetAt ks vs x (.int n)) : Te c vs (.Name x pos) (eval (.Name x pos) c.env) (n != 0) := fun _ _ _ _ _ _ _ _ F H N ret => by
  obtain ⟨t, ht⟩ := (G.get g).ok H
  exact isTrue_plain (name_loc G F (G.get g).mem ht (P.truthy_int (ret _ _ F N)))

/-- x in (n, 'text') -/
theorem te_in {ks : List PySem.Str} (G : c.Good ks) {x : PySem.Str} {n : Int} {q : PySem.Str} {k1 k2 k3 : Nat} {p1 p2 p3 p4 p5 : Pos} {whole : Sem Value} {u : V} {b : Bool} (g : GetAt ks vs x u)
    (hu : ∀ v, u.ok (some v) → ∃ b1 b2, (b1 || b2) = b ∧ (∀ t, Asks c.prog c.w (.int n t) v b1) ∧ (∀ t, Asks c.prog c.w (.str q t) v b2))
    (hsome : ∀ o, u.ok o → ∃ v, o = some v)
    (hm : behindInMarks .In (.Tuple [.Constant (.int n) k1 p2, .Constant (.str q) k2 p3] k3 p4) = false) :
    Te c vs (.Compare (.Name x p1) [.In] [.Tuple [.Constant (.int n) k1 p2, .Constant (.str q) k2 p3] k3 p4] p5) whole b := fun _ _ _ _ _ _ _ _ F H N ret => by
  have hok := (G.get g).ok H
  obtain ⟨v, hv⟩ := hsome _ hok
  rw [hv] at hok
  obtain ⟨b1, b2, hb, a1, a2⟩ := hu v hok
  refine wpAny_isTrue_Compare1 (name_loc G F (G.get g).mem hv ?_) hm
  refine Tuple_ (args_cons (wpAny_Constant_int ?_) rfl)
  refine args_cons (wpAny_Constant_str ?_) rfl
  refine args_nil ?_
  refine kup_newTuple F N (fun D h' F' N' _ => ?_) (Nat.le_of_ble_eq_true rfl)
  refine in_tuple_mix b (News.isTup N' (.head _)) (AskAll.cons (a1 _) (AskAll.cons (a2 _) AskAll.nil)) (by rw [← hb]; cases b1 <;> cases b2 <;> rfl) ?_
  exact wpAny_truthy_bool (ret _ _ F' (fun p hp => N' p (.tail _ hp)))
end
end Mine
end
section
open PySem PySem.W PyProof.Rows PySem.Spec PySem.Calls
namespace Mine

theorem swapped_none {elts es : List Expr} {k1 k2 : Nat} {p1 p2 : Pos} {env : Env} (h : es.all (foldedForSure 8) = true) : swappedStores [.Tuple elts k1 p1] (.Tuple es k2 p2) env = pure none := by
  unfold swappedStores
  dsimp only
  split
  · rfl
  · split
    · rfl
    · split
      · rfl
      · first | rfl | (rw [if_pos h]; done) | (rw [if_pos h]; rfl)

/-! statements -/
def St (c : Cx) (gs : Array GenState) (d : Drawn) (o : OsState) (Q : Flow → Shared → Prop) (E : Value → Shared → Prop) (ss : List Stmt) (vs : List V) : Prop :=
  ∀ (m : PySem.Str → Option Value) (h : Heap) (tk : Nat), Fr c.g c.L h m → Has m c.ks vs → News c.g c.L h c.news → wpAny c.M c.A (execs ss c.env) Q E ⟨h, gs, d, tk, o⟩
def Nx (c : Cx) (Q : Flow → Shared → Prop) (E : Value → Shared → Prop) (rest : List Stmt) : Flow → Shared → Prop :=
  fun f s' => match f with
    | .next => wpAny c.M c.A (execs rest c.env) Q E s'
    | f => Q f s'

section
variable {c : Cx} {gs : Array GenState} {d : Drawn} {o : OsState} {Q : Flow → Shared → Prop} {E : Value → Shared → Prop} {vs vs' : List V} {rest : List Stmt}

theorem st_run {ss : List Stmt} {m : PySem.Str → Option Value} {h : Heap} {tk : Nat} (F : Fr c.g c.L h m) (H : Has m c.ks vs) (N : News c.g c.L h c.news) (S : St c gs d o Q E ss vs) :
    wpAny c.M c.A (execs ss c.env) Q E ⟨h, gs, d, tk, o⟩ := S m h tk F H N
theorem st_go {ks : List PySem.Str} {ss : List Stmt} {m : PySem.Str → Option Value} {h : Heap} {tk : Nat} (F : Fr c.g c.L h m) (H : Has m c.ks vs) (N : News c.g c.L h c.news) (G : c.Good ks)
    (S : ∀ c' : Cx, c = c' → c'.Good ks → St c' gs d o Q E ss vs) : wpAny c.M c.A (execs ss c.env) Q E ⟨h, gs, d, tk, o⟩ := S c rfl G m h tk F H N
theorem st_nil (S : St c gs d o Q E rest vs) : St c gs d o (Nx c Q E rest) E [] vs := fun m h tk F H N =>
  wpAny_execs_nil (S m h tk F H N)

theorem store1 {ks : List PySem.Str} (G : c.Good ks) {x : PySem.Str} {v : Value} {u : V} {m : PySem.Str → Option Value} {h : Heap} {tk : Nat} {R : Unit → Shared → Prop}
    (F : Fr c.g c.L h m) (H : Has m c.ks vs) (N : News c.g c.L h c.news) (g : SetAt ks vs x u vs') (hu : u.ok (some v))
    (k : ∀ (m' : PySem.Str → Option Value) (h' : Heap) (tk' : Nat), Fr c.g c.L h' m' → Has m' c.ks vs' → News c.g c.L h' c.news → R () ⟨h', gs, d, tk', o⟩) :
    wpAny c.M c.A (storeName c.env x v) R E ⟨h, gs, d, tk, o⟩ :=
  storeX_L (cl := []) F N (fun h' F' N' => k _ h' _ F' (H.set (G.put g) G.nodup hu) N') G.kind (G.loc x (G.put g).mem).1

theorem st_assign {ks : List PySem.Str} (G : c.Good ks) {x : PySem.Str} {p1 pos : Pos} {e : Expr} {n : Int} (he : Ev c vs e n) (g : SetAt ks vs x (.int n) vs') (hsw : swapsWith e (some (.Name x p1)) pos.line c.env = pure false)
    (S : St c gs d o Q E rest vs') : St c gs d o Q E (.Assign [.Name x p1] e pos :: rest) vs := fun m h tk F H N => by
  refine wpAny_execs_cons (wpAny_Assign_Name (he _ _ _ _ _ _ _ _ F H N fun t h' tk' F N => ?_) hsw)
  exact store1 G F H N g ⟨t, rfl⟩ fun m' h' tk' F H N => S m' h' tk' F H N

theorem st_if {test : Expr} {body orelse : List Stmt} {pos : Pos} {b : Bool} (ht : Te c vs test (eval test c.env) b)
    (h1 : b = true → St c gs d o (Nx c Q E rest) E body vs) (h2 : b = false → St c gs d o (Nx c Q E rest) E orelse vs) : St c gs d o Q E (.If test body orelse pos :: rest) vs := fun m h tk F H N => by
  refine wpAny_execs_cons (wpAny_If (ht _ _ _ _ _ _ _ _ F H N fun h' tk' F N => ?_))
  cases b with
  | true => exact h1 rfl m h' tk' F H N
  | false => exact h2 rfl m h' tk' F H N

/-! several names at once -/
inductive Cs : List Expr → List V → Prop
  | nil : Cs [] []
  | int {n : Int} {k : Nat} {pos : Pos} {es : List Expr} {us : List V} : Cs es us → Cs (.Constant (.int n) k pos :: es) (.int n :: us)
  | none {k : Nat} {pos : Pos} {es : List Expr} {us : List V} : Cs es us → Cs (.Constant .none k pos :: es) (.none :: us)
inductive Ns : List Expr → List PySem.Str → Prop
  | nil : Ns [] []
  | cons {x : PySem.Str} {pos : Pos} {es : List Expr} {xs : List PySem.Str} : Ns es xs → Ns (.Name x pos :: es) (x :: xs)
inductive OkAll : List V → List Value → Prop
  | nil : OkAll [] []
  | cons {u : V} {v : Value} {us : List V} {ws : List Value} : u.ok (some v) → OkAll us ws → OkAll (u :: us) (v :: ws)
theorem OkAll.length {us : List V} {ws : List Value} (h : OkAll us ws) : ws.length = us.length := by
  induction h with
  | nil => rfl
  | cons _ _ ih => rw [List.length_cons, List.length_cons, ih]

theorem splice_cs {es : List Expr} {us : List V} (h : Cs es us) {pos : Pos} : ∀ {hp : Heap} {tk : Nat} {R : List Value → Shared → Prop},
    (∀ ws tk', OkAll us ws → R ws ⟨hp, gs, d, tk', o⟩) → wpAny c.M c.A (spliced (backTo pos (starEach es c.env))) R E ⟨hp, gs, d, tk, o⟩ := by
  induction h with
  | nil => exact fun k => args_nil (k _ _ .nil)
  | int _ ih => exact fun k => args_cons (wpAny_Constant_int (ih fun ws tk' hw => k _ _ (.cons ⟨_, rfl⟩ hw))) rfl
  | none _ ih => exact fun k => args_cons (wpAny_Constant_none (ih fun ws tk' hw => k _ _ (.cons rfl hw))) rfl

theorem names_len {es : List Expr} {xs : List PySem.Str} (h : Ns es xs) : (assignEach es c.env).length = xs.length := by
  induction h with
  | nil => rfl
  | cons _ ih => show (_ :: assignEach _ c.env).length = _; rw [List.length_cons, ih, List.length_cons]
theorem names_star {es : List Expr} {xs : List PySem.Str} (h : Ns es xs) : ∀ p ∈ assignEach es c.env, p.1 = false := by
  induction h with
  | nil => intro p hp; cases hp
  | cons _ ih =>
    intro p hp
    rcases List.mem_cons.mp hp with e | hp
    · rw [e]
    · exact ih p hp
theorem assign_ns {ks : List PySem.Str} (G : c.Good ks) {es : List Expr} {xs : List PySem.Str} (h : Ns es xs) : ∀ {vs vs' us : List V} {ws : List Value} {m : PySem.Str → Option Value} {hp : Heap} {tk : Nat} {R : Unit → Shared → Prop},
    SetAll ks vs xs us vs' → OkAll us ws → Fr c.g c.L hp m → Has m c.ks vs → News c.g c.L hp c.news →
    (∀ (m' : PySem.Str → Option Value) (h' : Heap) (tk' : Nat), Fr c.g c.L h' m' → Has m' c.ks vs' → News c.g c.L h' c.news → R () ⟨h', gs, d, tk', o⟩) →
    wpAny c.M c.A (assignInOrder ((assignEach es c.env).map (·.2)) ws) R E ⟨hp, gs, d, tk, o⟩ := by
  induction h with
  | nil =>
    intro vs vs' us ws m hp tk R hs hw F H N k
    cases hs
    cases hw
    exact assignInOrder_nil (k _ _ _ F H N)
  | cons _ ih =>
    intro vs vs' us ws m hp tk R hs hw F H N k
    cases hs with
    | cons s1 s2 =>
      cases hw with
      | cons w1 w2 =>
        refine assignInOrder_cons (assign_Name ?_)
        exact store1 G F H N s1 w1 fun m' h' tk' F H N => ih s2 w2 F H N k

theorem st_tup {ks : List PySem.Str} (G : c.Good ks) {elts es : List Expr} {xs : List PySem.Str} {us : List V} {k1 k2 : Nat} {p1 p2 pos : Pos} (hn : Ns elts xs) (hc : Cs es us) (hs : SetAll ks vs xs us vs') (hl : us.length = xs.length) (hz : us.length ≤ sizeLine)
    (hw1 : swapsWithSole [.Tuple elts k1 p1] (.Tuple es k2 p2) pos.line c.env = pure false) (hw2 : swappedStores [.Tuple elts k1 p1] (.Tuple es k2 p2) c.env = pure none)
    (S : St c gs d o Q E rest vs') : St c gs d o Q E (.Assign [.Tuple elts k1 p1] (.Tuple es k2 p2) pos :: rest) vs := fun m h tk F H N => by
  refine wpAny_execs_cons (Assign_Tuple ?_ hw1 hw2)
  refine Tuple_ (splice_cs hc fun ws tk' hw => ?_)
  refine kup_newTuple F N (fun D h' F' N' _ => ?_) (by rw [hw.length]; exact hz)
  refine unpackN_ F' (fun p hp => N' p (.tail _ hp)) (News.isTup N' (.head _)) G.hA (by rw [names_len hn, ← hl, ← hw.length]; simp) ?_ fun h'' F'' N'' => ?_
  · exact List.findIdx?_eq_none_iff.mpr fun p hp => names_star hn p hp
  · exact assign_ns G hn hs (by simpa using hw) F'' H N'' fun m' h' tk' F H N => S m' h' tk' F H N

theorem st_three {ks : List PySem.Str} (G : c.Good ks) {x y z : PySem.Str} {px py pz pn pos : Pos} {k : Nat} {vs1 vs2 : List V} (g1 : SetAt ks vs x .none vs1) (g2 : SetAt ks vs1 y .none vs2) (g3 : SetAt ks vs2 z .none vs')
    (hw : swappedStores [.Name x px, .Name y py, .Name z pz] (.Constant .none k pn) c.env = pure none)
    (S : St c gs d o Q E rest vs') : St c gs d o Q E (.Assign [.Name x px, .Name y py, .Name z pz] (.Constant .none k pn) pos :: rest) vs := fun m h tk F H N => by
  refine wpAny_execs_cons (wpAny_Assign_three (wpAny_Constant_none ?_) rfl hw)
  refine assign_Name (store1 G F H N g1 rfl fun m' h' tk' F H N => ?_)
  refine assign_Name (store1 G F H N g2 rfl fun m' h' tk' F H N => ?_)
  exact assign_Name (store1 G F H N g3 rfl fun m' h' tk' F H N => S m' h' tk' F H N)

theorem st_ret {e : Expr} {pos : Pos} {n : Int} (he : Ev c vs e n)
    (k : ∀ (m : PySem.Str → Option Value) (t : Tok) (h : Heap) (tk : Nat), Fr c.g c.L h m → News c.g c.L h c.news → Q (.ret (.int n t)) ⟨h, gs, d, tk, o⟩) :
    St c gs d o Q E (.Return (some e) pos :: rest) vs := fun m h tk F H N =>
  wpAny_execs_cons (wpAny_Return_some (he _ _ _ _ _ _ _ _ F H N fun t h' tk' F N => k m t h' tk' F N))

def tup3 (x y z : Int) (t1 t2 t3 : Tok) : Obj := { cls := .type "tuple", data := .seq #[.int x t1, .int y t2, .int z t3] }
theorem st_ret3 {e1 e2 e3 : Expr} {kt : Nat} {p1 pos : Pos} {x y z : Int} (h1 : Ev c vs e1 x) (h2 : Ev c vs e2 y) (h3 : Ev c vs e3 z)
    (s1 : ∀ r, starEach (e1 :: r) c.env = (false, eval e1 c.env) :: starEach r c.env) (s2 : ∀ r, starEach (e2 :: r) c.env = (false, eval e2 c.env) :: starEach r c.env) (s3 : ∀ r, starEach (e3 :: r) c.env = (false, eval e3 c.env) :: starEach r c.env)
    (k : ∀ (m : PySem.Str → Option Value) (D : Addr) (t1 t2 t3 : Tok) (h : Heap) (tk : Nat), Fr c.g c.L h m → News c.g c.L h ((D, tup3 x y z t1 t2 t3) :: c.news) → (∀ p ∈ c.news, p.1 < D) → Q (.ret (.ref D)) ⟨h, gs, d, tk, o⟩) :
    St c gs d o Q E (.Return (some (.Tuple [e1, e2, e3] kt p1)) pos :: rest) vs := fun m h tk F H N => by
  refine wpAny_execs_cons (wpAny_Return_some (Tuple_ ?_))
  refine args_cons (h1 _ _ _ _ _ _ _ _ F H N fun _ _ _ F N => ?_) (s1 _)
  refine args_cons (h2 _ _ _ _ _ _ _ _ F H N fun _ _ _ F N => ?_) (s2 _)
  refine args_cons (h3 _ _ _ _ _ _ _ _ F H N fun _ _ _ F N => ?_) (s3 _)
  refine args_nil ?_
  exact kup_newTuple F N (fun D h' F' N' hl => k m D _ _ _ h' _ F' N' hl) (Nat.le_of_ble_eq_true rfl)
end
end Mine
end
section
open PySem PySem.W PyProof.Rows PySem.Spec PySem.Calls
namespace Mine
/-- the value that names a rule -/
def IsRule (r : Int) (v : Value) : Prop :=
  (r = 0 ∧ ((∃ t, v = .str (PySem.Str.ofString "continuous") t) ∨ ∃ t, v = .int 4 t)) ∨
  (r = 1 ∧ ((∃ t, v = .str (PySem.Str.ofString "romme") t) ∨ ∃ t, v = .int 100 t)) ∨
  (r = 2 ∧ ((∃ t, v = .str (PySem.Str.ofString "madler") t) ∨ ∃ t, v = .int 128 t))
def AskIn (c : Cx) (u : V) (n : Int) (q : PySem.Str) (b : Bool) : Prop :=
  (∀ v, u.ok (some v) → ∃ b1 b2, (b1 || b2) = b ∧ (∀ t, Asks c.prog c.w (.int n t) v b1) ∧ (∀ t, Asks c.prog c.w (.str q t) v b2)) ∧ ∀ o, u.ok o → ∃ v, o = some v
theorem askIn_str {c : Cx} {n : Int} {q y : PySem.Str} {t : Tok} (b : Bool) (h : (q == y) = b) : AskIn c (.is (.str y t)) n q b :=
  ⟨fun v hv => by
    cases hv
    exact ⟨false, b, by simp, fun _ => asks_is _ _ _ _, fun _ => h ▸ asks_ss _ _ _ _⟩, fun o ho => ⟨_, ho⟩⟩
theorem askIn_num {c : Cx} {n y : Int} {q : PySem.Str} {t : Tok} (b : Bool) (h : (n == y) = b) : AskIn c (.is (.int y t)) n q b :=
  ⟨fun v hv => by
    cases hv
    exact ⟨b, false, by simp, fun _ => h ▸ asks_ii _ _ _ _, fun _ => asks_si _ _ _ _⟩, fun o ho => ⟨_, ho⟩⟩
theorem askIn_int {c : Cx} {n y : Int} {q : PySem.Str} (b : Bool) (h : (n == y) = b) : AskIn c (.int y) n q b :=
  ⟨fun v hv => by
    obtain ⟨t, ht⟩ := hv
    cases ht
    exact ⟨b, false, by simp, fun _ => h ▸ asks_ii _ _ _ _, fun _ => asks_si _ _ _ _⟩, fun o ho => by
    obtain ⟨t, ht⟩ := ho
    exact ⟨_, ht⟩⟩
theorem askIn_rule {c : Cx} {r : Int} {v : Value} (h : IsRule r v) :
    AskIn c (.is v) 4 (PySem.Str.ofString "continuous") (r == 0) ∧ AskIn c (.is v) 100 (PySem.Str.ofString "romme") (r == 1) ∧ AskIn c (.is v) 128 (PySem.Str.ofString "madler") (r == 2) := by
  rcases h with ⟨rfl, ⟨t, rfl⟩ | ⟨t, rfl⟩⟩ | ⟨rfl, ⟨t, rfl⟩ | ⟨t, rfl⟩⟩ | ⟨rfl, ⟨t, rfl⟩ | ⟨t, rfl⟩⟩
  · exact ⟨askIn_str _ (by decide), askIn_str _ (by decide), askIn_str _ (by decide)⟩
  · exact ⟨askIn_num _ (by decide), askIn_num _ (by decide), askIn_num _ (by decide)⟩
  · exact ⟨askIn_str _ (by decide), askIn_str _ (by decide), askIn_str _ (by decide)⟩
  · exact ⟨askIn_num _ (by decide), askIn_num _ (by decide), askIn_num _ (by decide)⟩
  · exact ⟨askIn_str _ (by decide), askIn_str _ (by decide), askIn_str _ (by decide)⟩
  · exact ⟨askIn_num _ (by decide), askIn_num _ (by decide), askIn_num _ (by decide)⟩
theorem te_rule {c : Cx} {vs : List V} {ks : List PySem.Str} (G : c.Good ks) {x : PySem.Str} {n : Int} {q : PySem.Str} {k1 k2 k3 : Nat} {p1 p2 p3 p4 p5 : Pos} {whole : Sem Value} {u : V} {b : Bool} (g : GetAt ks vs x u) (h : AskIn c u n q b)
    (hm : behindInMarks .In (.Tuple [.Constant (.int n) k1 p2, .Constant (.str q) k2 p3] k3 p4) = false) :
    Te c vs (.Compare (.Name x p1) [.In] [.Tuple [.Constant (.int n) k1 p2, .Constant (.str q) k2 p3] k3 p4] p5) whole b := te_in G g h.1 h.2 hm

section
variable (prog : Program) (w : World) (K : Frag) (p : Program) (loose : List PySem.Str) (mean : ExcName → Option Value) (mg mb : PySem.Str → Option Value)
/-- what is asked of a day: the place-th one of the year y -/
def FromPre (r y place jd : Int) : Prop := 1 ≤ y ∧ 0 ≤ place ∧ place < firstF r (y + 1) - firstF r y ∧ ¬ (r = 1 ∧ y % 400 = 12 ∧ place = 365) ∧ jd = firstF r y + place
def C3 (f : Addr) (news : List (Addr × Obj)) (sz : Nat) (vs : List Value) (x y z : Int) : Prop :=
  ∀ (dp un : Nat) (gd : Option (List Code)) (cn : PySem.Str) (cs : Scope) (a : Addr) (ccd : Value) (cl : List (PySem.Str × Addr)) (outer : List Env) (A₀ : Around) (base h₀ : Heap) (L : Addr) (m : PySem.Str → Option Value) (s : Shared) (Q E : Value → Shared → Prop),
    Below A₀ base outer h₀ → Fr h₀ L s.heap m → K.In h₀ → News h₀ L s.heap news → Top p loose mean mg mb h₀ → cs.kind = .function → dp + sz + 1 < recursionLimit → un + 8 * (sz + 1) < cLine →
    (∀ (D : Addr) (t1 t2 t3 : Tok) (h' : Heap) (tk' : Nat), Fr h₀ L h' m → News h₀ L h' ((D, tup3 x y z t1 t2 t3) :: news) → (∀ p ∈ news, p.1 < D) → Q (.ref D) { s with heap := h', toks := tk' }) →
    wpAny (model prog w) (ktrTop dp un gd cn cs L a ccd cl outer) (call (.ref f) vs) Q E s
def CFromR : Prop :=
  ∀ (r : Int) (v : Value) (y place jd : Int) (tj : Tok) (news : List (Addr × Obj)), IsRule r v → FromPre r y place jd →
    C3 prog w K p loose mean mg mb 43 news 2 [.int jd tj, v] y (place / 30 + 1) (place % 30 + 1)
def CToR : Prop :=
  ∀ (r : Int) (v : Value) (y mo d : Int) (ty tmo td : Tok) (news : List (Addr × Obj)), IsRule r v →
    CbRec prog w K p loose mean mg mb 28 news [] (1 ≤ y) 2 [.int y ty, .int mo tmo, .int d td, v] (fun t => .int (firstF r y + 30 * (mo - 1) + (d - 1)) t)
end
abbrev toKs : List PySem.Str := [PySem.Str.ofString "year", PySem.Str.ofString "month", PySem.Str.ofString "day", PySem.Str.ofString "method", PySem.Str.ofString "y0", PySem.Str.ofString "y1", PySem.Str.ofString "y2", PySem.Str.ofString "y3", PySem.Str.ofString "y4", PySem.Str.ofString "y5", PySem.Str.ofString "intercal_cycle_yrs", PySem.Str.ofString "over_cycle_yrs", PySem.Str.ofString "leap_suppression_yrs", PySem.Str.ofString "leap_suppression_days", PySem.Str.ofString "intercal_cycle_days", PySem.Str.ofString "over_cycle_days", PySem.Str.ofString "yj", PySem.Str.ofString "mj"]
theorem toKs_nodup : toKs.Nodup := by decide +kernel
abbrev frKs : List PySem.Str := [PySem.Str.ofString "jd", PySem.Str.ofString "method", PySem.Str.ofString "J", PySem.Str.ofString "y0", PySem.Str.ofString "y1", PySem.Str.ofString "y2", PySem.Str.ofString "y3", PySem.Str.ofString "y4", PySem.Str.ofString "y5", PySem.Str.ofString "intercal_cycle_days", PySem.Str.ofString "leap_suppression_days", PySem.Str.ofString "over_cycle_days", PySem.Str.ofString "leap_suppression_yrs", PySem.Str.ofString "intercal_cycle_yrs", PySem.Str.ofString "over_cycle_yrs", PySem.Str.ofString "year", PySem.Str.ofString "month"]
theorem frKs_nodup : frKs.Nodup := by decide +kernel
theorem FromPre.epoch {r y place jd : Int} (hr : r = 0 ∨ r = 1 ∨ r = 2) (h : FromPre r y place jd) : 2375840 ≤ jd := by
  obtain ⟨h1, h2, _, _, h5⟩ := h
  subst h5
  unfold firstF ahead
  rcases hr with rfl | rfl | rfl
  · simp; omega
  · simp; split <;> omega
  · simp; split <;> omega
theorem IsRule.three {r : Int} {v : Value} (hr : IsRule r v) : r = 0 ∨ r = 1 ∨ r = 2 := by
  rcases hr with ⟨e, _⟩ | ⟨e, _⟩ | ⟨e, _⟩
  · exact .inl e
  · exact .inr (.inl e)
  · exact .inr (.inr e)
end Mine
end
section
namespace Mine
theorem plain0 {y place J : Int} (_ : 1 ≤ y) (h2 : 0 ≤ place) (h3 : place < 365 + ((y + 1) / 4 - y / 4)) (hJ : J = 365 * y + y / 4 + place) :
    ∃ q e : Int, y = 4 * q + e ∧ 0 ≤ e ∧ e ≤ 3 ∧ J / 1461 = q ∧ J % 1461 = 365 * e + place ∧ 0 ≤ place ∧ place ≤ 365 ∧ (place = 365 → e = 3) := by
  obtain ⟨q, e, hy, he0, he3⟩ : ∃ q e : Int, y = 4 * q + e ∧ 0 ≤ e ∧ e ≤ 3 := ⟨y / 4, y % 4, by omega, by omega, by omega⟩
  have d1 : y / 4 = q := by omega
  have b : place ≤ 365 ∧ (place = 365 → e = 3) := by omega
  have a : J = 1461 * q + (365 * e + place) := by rw [hJ, d1, hy]; omega
  have c : 0 ≤ 365 * e + place ∧ 365 * e + place < 1461 := by omega
  refine ⟨q, e, hy, he0, he3, ?_, ?_, h2, b⟩
  · clear h3 hJ hy d1 b
    omega
  · clear h3 hJ hy d1 b
    omega
/-- years by 4000, 400, 100, 4 -/
structure Dig (z a b c d e : Int) : Prop where
  eq : z = 4000 * a + 400 * b + 100 * c + 4 * d + e
  b0 : 0 ≤ b
  b9 : b ≤ 9
  c0 : 0 ≤ c
  c3 : c ≤ 3
  d0 : 0 ≤ d
  d24 : d ≤ 24
  e0 : 0 ≤ e
  e3 : e ≤ 3
theorem dig (z : Int) : ∃ a b c d e, Dig z a b c d e := by
  refine ⟨z / 4000, z % 4000 / 400, z % 4000 % 400 / 100, z % 4000 % 400 % 100 / 4, z % 4000 % 400 % 100 % 4, ?_, ?_, ?_, ?_, ?_, ?_, ?_, ?_, ?_⟩ <;> omega
theorem Dig.q4 {z a b c d e : Int} (h : Dig z a b c d e) : z / 4 = 1000 * a + 100 * b + 25 * c + d := by
  obtain ⟨h1, h2, h3, h4, h5, h6, h7, h8, h9⟩ := h
  clear h2 h3 h4 h5 h6 h7
  omega
theorem Dig.q100 {z a b c d e : Int} (h : Dig z a b c d e) : z / 100 = 40 * a + 4 * b + c := by
  obtain ⟨h1, h2, h3, h4, h5, h6, h7, h8, h9⟩ := h
  clear h2 h3 h4 h5
  omega
theorem Dig.q400 {z a b c d e : Int} (h : Dig z a b c d e) : z / 400 = 10 * a + b := by
  obtain ⟨h1, h2, h3, h4, h5, h6, h7, h8, h9⟩ := h
  clear h2 h3
  omega
theorem Dig.q4000 {z a b c d e : Int} (h : Dig z a b c d e) : z / 4000 = a := by
  obtain ⟨h1, h2, h3, h4, h5, h6, h7, h8, h9⟩ := h
  omega
/-- one year on -/
theorem Dig.up {z a b c d e : Int} (h : Dig z a b c d e) :
    (e < 3 ∧ Dig (z + 1) a b c d (e + 1)) ∨ (e = 3 ∧ d < 24 ∧ Dig (z + 1) a b c (d + 1) 0) ∨ (e = 3 ∧ d = 24 ∧ c < 3 ∧ Dig (z + 1) a b (c + 1) 0 0) ∨
    (e = 3 ∧ d = 24 ∧ c = 3 ∧ b < 9 ∧ Dig (z + 1) a (b + 1) 0 0 0) ∨ (e = 3 ∧ d = 24 ∧ c = 3 ∧ b = 9 ∧ Dig (z + 1) (a + 1) 0 0 0 0) := by
  obtain ⟨h1, h2, h3, h4, h5, h6, h7, h8, h9⟩ := h
  by_cases he : e < 3
  · exact .inl ⟨he, by constructor <;> omega⟩
  · by_cases hd : d < 24
    · exact .inr (.inl ⟨by omega, hd, by constructor <;> omega⟩)
    · by_cases hc : c < 3
      · exact .inr (.inr (.inl ⟨by omega, by omega, hc, by constructor <;> omega⟩))
      · by_cases hb : b < 9
        · exact .inr (.inr (.inr (.inl ⟨by omega, by omega, by omega, hb, by constructor <;> omega⟩)))
        · exact .inr (.inr (.inr (.inr ⟨by omega, by omega, by omega, by omega, by constructor <;> omega⟩)))
/-- Romme's long years ahead of the year 13 + z, less the three first -/
def cnt (z : Int) : Int := z / 4 - z / 100 + z / 400 - z / 4000
theorem Dig.cnt {z a b c d e : Int} (h : Dig z a b c d e) : cnt z = 969 * a + 97 * b + 24 * c + d := by
  unfold Mine.cnt
  rw [h.q4, h.q100, h.q400, h.q4000]
  omega
theorem step1 {w x : Int} {k n : Int} (hn : 0 < n) (hx0 : 0 ≤ x) (hx : x < n) (h : w = n * k + x) : w / n = k ∧ w % n = x := by
  subst h
  constructor
  · rw [Int.add_comm, Int.add_mul_ediv_left _ _ (Int.ne_of_gt hn), Int.ediv_eq_zero_of_lt hx0 hx, Int.zero_add]
  · rw [Int.add_comm, Int.add_mul_emod_self_left]
    exact Int.emod_eq_of_lt hx0 hx
theorem plain1 {z place J : Int} (h2 : 0 ≤ place) (h3 : place < 365 + (cnt (z + 1) - cnt z)) (h4 : ¬ (z % 400 = 399 ∧ place = 365)) (hJ : J = 365 * z + cnt z + place) :
    ∃ a b c d e : Int, z = 4000 * a + 400 * b + 100 * c + 4 * d + e ∧ 0 ≤ e ∧ e ≤ 3 ∧ J / 1460969 = a ∧ J % 1460969 / 146097 = b ∧ J % 1460969 % 146097 / 36524 = c ∧ J % 1460969 % 146097 % 36524 / 1461 = d ∧
      J % 1460969 % 146097 % 36524 % 1461 = 365 * e + place ∧ 0 ≤ place ∧ place ≤ 365 ∧ (place = 365 → e = 3) := by
  obtain ⟨a, b, c, d, e, h⟩ := dig z
  have hz := h.cnt
  have key : place ≤ 365 ∧ (place = 365 → e = 3 ∧ d < 24) ∧ (place = 365 → c < 3 ∨ d < 24) := by
    rcases h.up with ⟨k1, k⟩ | ⟨k1, k2, k⟩ | ⟨k1, k2, k3, k⟩ | ⟨k1, k2, k3, k4, k⟩ | ⟨k1, k2, k3, k4, k⟩
    · have := k.cnt; omega
    · have := k.cnt; omega
    · have := k.cnt; omega
    · have hm : z % 400 = 399 := by
        have := h.eq
        clear h3 hJ hz h4 h2
        omega
      have := k.cnt
      refine ⟨by omega, fun hp => absurd ⟨hm, hp⟩ h4, fun hp => absurd ⟨hm, hp⟩ h4⟩
    · have := k.cnt; omega
  obtain ⟨b1, b2, b3, b4, b5, b6, b7, b8, b9⟩ := h
  have hJ2 : J = 1460969 * a + (146097 * b + (36524 * c + (1461 * d + (365 * e + place)))) := by
    rw [hJ, hz, b1]
    omega
  have r1 : 0 ≤ 365 * e + place ∧ 365 * e + place < 1461 := by
    clear h3 h4 hJ hz b1 hJ2
    omega
  have r2 : 0 ≤ 1461 * d + (365 * e + place) ∧ 1461 * d + (365 * e + place) < 36524 := by
    clear h3 h4 hJ hz b1 hJ2
    omega
  have r3 : 0 ≤ 36524 * c + (1461 * d + (365 * e + place)) ∧ 36524 * c + (1461 * d + (365 * e + place)) < 146097 := by
    clear h3 h4 hJ hz b1 hJ2
    omega
  have r4 : 0 ≤ 146097 * b + (36524 * c + (1461 * d + (365 * e + place))) ∧ 146097 * b + (36524 * c + (1461 * d + (365 * e + place))) < 1460969 := by
    clear h3 h4 hJ hz b1 hJ2
    omega
  have q1 := step1 (by decide) r4.1 r4.2 hJ2
  have q2 := step1 (n := 146097) (by decide) r3.1 r3.2 q1.2
  have q3 := step1 (n := 36524) (by decide) r2.1 r2.2 q2.2
  have q4 := step1 (n := 1461) (by decide) r1.1 r1.2 q3.2
  exact ⟨a, b, c, d, e, b1, b8, b9, q1.1, q2.1, q3.1, q4.1, q4.2, h2, key.1, fun hp => (key.2.1 hp).1⟩
/-- von Maedler's, less the four first; z = y - 17 -/
def cnt2 (z : Int) : Int := z / 4 - z / 128
structure Dig2 (z a d e : Int) : Prop where
  eq : z = 128 * a + 4 * d + e
  d0 : 0 ≤ d
  d31 : d ≤ 31
  e0 : 0 ≤ e
  e3 : e ≤ 3
theorem dig2 (z : Int) : ∃ a d e, Dig2 z a d e := by
  refine ⟨z / 128, z % 128 / 4, z % 128 % 4, ?_, ?_, ?_, ?_, ?_⟩ <;> omega
theorem Dig2.cnt {z a d e : Int} (h : Dig2 z a d e) : cnt2 z = 31 * a + d := by
  obtain ⟨h1, h6, h7, h8, h9⟩ := h
  have q4 : z / 4 = 32 * a + d := by
    clear h6 h7
    omega
  have q128 : z / 128 = a := by omega
  unfold cnt2
  rw [q4, q128]
  omega
theorem Dig2.up {z a d e : Int} (h : Dig2 z a d e) :
    (e < 3 ∧ Dig2 (z + 1) a d (e + 1)) ∨ (e = 3 ∧ d < 31 ∧ Dig2 (z + 1) a (d + 1) 0) ∨ (e = 3 ∧ d = 31 ∧ Dig2 (z + 1) (a + 1) 0 0) := by
  obtain ⟨h1, h6, h7, h8, h9⟩ := h
  by_cases he : e < 3
  · exact .inl ⟨he, by constructor <;> omega⟩
  · by_cases hd : d < 31
    · exact .inr (.inl ⟨by omega, hd, by constructor <;> omega⟩)
    · exact .inr (.inr ⟨by omega, by omega, by constructor <;> omega⟩)
theorem plain2 {z place J : Int} (h2 : 0 ≤ place) (h3 : place < 365 + (cnt2 (z + 1) - cnt2 z)) (hJ : J = 365 * z + cnt2 z + place) :
    ∃ a d e : Int, z = 128 * a + 4 * d + e ∧ 0 ≤ e ∧ e ≤ 3 ∧ J / 46751 = a ∧ J % 46751 / 1461 = d ∧ J % 46751 % 1461 = 365 * e + place ∧ 0 ≤ place ∧ place ≤ 365 ∧ (place = 365 → e = 3) := by
  obtain ⟨a, d, e, h⟩ := dig2 z
  have hz := h.cnt
  have key : place ≤ 365 ∧ (place = 365 → e = 3 ∧ d < 31) := by
    rcases h.up with ⟨k1, k⟩ | ⟨k1, k2, k⟩ | ⟨k1, k2, k⟩
    · have := k.cnt; omega
    · have := k.cnt; omega
    · have := k.cnt; omega
  obtain ⟨b1, b6, b7, b8, b9⟩ := h
  have hJ2 : J = 46751 * a + (1461 * d + (365 * e + place)) := by
    rw [hJ, hz, b1]
    omega
  have r1 : 0 ≤ 365 * e + place ∧ 365 * e + place < 1461 := by
    clear h3 hJ hz b1 hJ2
    omega
  have r2 : 0 ≤ 1461 * d + (365 * e + place) ∧ 1461 * d + (365 * e + place) < 46751 := by
    clear h3 hJ hz b1 hJ2
    omega
  have q3 := step1 (n := 46751) (by decide) r2.1 r2.2 hJ2
  have q4 := step1 (n := 1461) (by decide) r1.1 r1.2 q3.2
  exact ⟨a, d, e, b1, b8, b9, q3.1, q4.1, q4.2, h2, key.1, fun hp => (key.2 hp).1⟩

theorem ahead1 {y : Int} (hy : 13 ≤ y) : ahead 1 y = 3 + cnt (y - 13) := by
  unfold ahead cnt
  by_cases h : y < 15
  · rw [if_pos (by omega)]
    have : y = 13 ∨ y = 14 := by omega
    rcases this with rfl | rfl <;> decide
  · rw [if_neg (by omega), if_pos rfl]
    have : (y - 1) / 4 = 3 + (y - 13) / 4 := by omega
    rw [this]
    omega
theorem ahead2 {y : Int} (hy : 17 ≤ y) : ahead 2 y = 4 + cnt2 (y - 17) := by
  unfold ahead cnt2
  rw [if_neg (by omega), if_neg (by omega)]
  have : (y - 1) / 4 = 4 + (y - 17) / 4 := by omega
  rw [this]
  omega
theorem ahead12 {r y : Int} (h : (r = 0) ∨ (r = 1 ∧ y < 15) ∨ (r = 2 ∧ y < 17)) : ahead r y = y / 4 := by
  unfold ahead
  rw [if_pos h]
end Mine
end
section
namespace Mine
theorem split0 {y place jd : Int} (hp : FromPre 0 y place jd) :
    ∃ q e : Int, y = 4 * q + e ∧ 0 ≤ e ∧ e ≤ 3 ∧ (jd - 2375840 + 365) / 1461 = q ∧ (jd - 2375840 + 365) % 1461 = 365 * e + place ∧ 0 ≤ place ∧ place ≤ 365 ∧ (place = 365 → e = 3) := by
  obtain ⟨h1, h2, h3, _, h5⟩ := hp
  unfold firstF at h3 h5
  rw [ahead12 (.inl rfl)] at h3 h5
  rw [ahead12 (.inl rfl)] at h3
  exact plain0 h1 h2 (by omega) (by omega)
theorem split0a {y place jd : Int} (hp : FromPre 1 y place jd) (h : jd - 2375840 ≤ 4383) :
    ∃ q e : Int, y = 4 * q + e ∧ 0 ≤ e ∧ e ≤ 3 ∧ (jd - 2375840 + 365) / 1461 = q ∧ (jd - 2375840 + 365) % 1461 = 365 * e + place ∧ 0 ≤ place ∧ place ≤ 365 ∧ (place = 365 → e = 3) := by
  obtain ⟨h1, h2, h3, _, h5⟩ := hp
  unfold firstF at h3 h5
  have hy : y < 14 := by
    by_cases q : y < 14
    · exact q
    · exfalso
      have := ahead1 (y := y) (by omega)
      have h0 : 0 ≤ cnt (y - 13) := by unfold cnt; omega
      omega
  rw [ahead12 (.inr (.inl ⟨rfl, by omega⟩))] at h3 h5
  rw [ahead12 (.inr (.inl ⟨rfl, by omega⟩))] at h3
  exact plain0 h1 h2 (by omega) (by omega)
theorem split0b {y place jd : Int} (hp : FromPre 2 y place jd) (h : jd - 2375840 ≤ 6209) :
    ∃ q e : Int, y = 4 * q + e ∧ 0 ≤ e ∧ e ≤ 3 ∧ (jd - 2375840 + 365) / 1461 = q ∧ (jd - 2375840 + 365) % 1461 = 365 * e + place ∧ 0 ≤ place ∧ place ≤ 365 ∧ (place = 365 → e = 3) := by
  obtain ⟨h1, h2, h3, _, h5⟩ := hp
  unfold firstF at h3 h5
  have hy : y < 16 ∨ (y = 16 ∨ y = 17 ∨ y = 18 ∧ place = 0) := by
    by_cases q : y < 18
    · omega
    · have := ahead2 (y := y) (by omega)
      have h0 : 0 ≤ cnt2 (y - 17) := by unfold cnt2; omega
      omega
  rcases hy with hy | rfl | rfl | ⟨rfl, rfl⟩
  · rw [ahead12 (.inr (.inr ⟨rfl, by omega⟩))] at h3 h5
    rw [ahead12 (.inr (.inr ⟨rfl, by omega⟩))] at h3
    exact plain0 h1 h2 (by omega) (by omega)
  · have e1 : ahead 2 (16 + 1) = 4 := by decide
    have e2 : ahead 2 16 = 4 := by decide
    rw [e2] at h5
    rw [e1, e2] at h3
    exact plain0 h1 h2 (by omega) (by omega)
  · have e1 : ahead 2 (17 + 1) = 4 := by decide
    have e2 : ahead 2 17 = 4 := by decide
    rw [e2] at h5
    rw [e1, e2] at h3
    exact plain0 h1 h2 (by omega) (by omega)
  · have e2 : ahead 2 18 = 4 := by decide
    rw [e2] at h5
    exact plain0 h1 h2 (by omega) (by omega)
theorem split1 {y place jd : Int} (hp : FromPre 1 y place jd) (h : 4383 < jd - 2375840) :
    ∃ a b c d e : Int, y - 13 = 4000 * a + 400 * b + 100 * c + 4 * d + e ∧ 0 ≤ e ∧ e ≤ 3 ∧ (jd - 2375840 - 365 * 12 - 3) / 1460969 = a ∧ (jd - 2375840 - 365 * 12 - 3) % 1460969 / 146097 = b ∧ (jd - 2375840 - 365 * 12 - 3) % 1460969 % 146097 / 36524 = c ∧ (jd - 2375840 - 365 * 12 - 3) % 1460969 % 146097 % 36524 / 1461 = d ∧
      (jd - 2375840 - 365 * 12 - 3) % 1460969 % 146097 % 36524 % 1461 = 365 * e + place ∧ 0 ≤ place ∧ place ≤ 365 ∧ (place = 365 → e = 3) := by
  obtain ⟨h1, h2, h3, h4, h5⟩ := hp
  unfold firstF at h3 h5
  have hy : 13 ≤ y := by
    by_cases q : y < 13
    · exfalso
      rw [ahead12 (.inr (.inl ⟨rfl, by omega⟩))] at h3 h5
      rw [ahead12 (.inr (.inl ⟨rfl, by omega⟩))] at h3
      omega
    · omega
  rw [ahead1 hy] at h3 h5
  rw [ahead1 (y := y + 1) (by omega), show y + 1 - 13 = (y - 13) + 1 from by omega] at h3
  refine plain1 h2 (by omega) (fun q => h4 ⟨rfl, ?_, q.2⟩) (by omega)
  have := q.1
  omega
theorem split2 {y place jd : Int} (hp : FromPre 2 y place jd) (h : 6209 < jd - 2375840) :
    ∃ a d e : Int, y - 17 = 128 * a + 4 * d + e ∧ 0 ≤ e ∧ e ≤ 3 ∧ (jd - 2375840 - 365 * 16 - 4) / 46751 = a ∧ (jd - 2375840 - 365 * 16 - 4) % 46751 / 1461 = d ∧ (jd - 2375840 - 365 * 16 - 4) % 46751 % 1461 = 365 * e + place ∧ 0 ≤ place ∧ place ≤ 365 ∧ (place = 365 → e = 3) := by
  obtain ⟨h1, h2, h3, h4, h5⟩ := hp
  unfold firstF at h3 h5
  have hy : 17 ≤ y := by
    by_cases q : y < 16
    · exfalso
      rw [ahead12 (.inr (.inr ⟨rfl, by omega⟩))] at h3 h5
      rw [ahead12 (.inr (.inr ⟨rfl, by omega⟩))] at h3
      omega
    · by_cases q' : y = 16
      · subst q'
        exfalso
        have e1 : ahead 2 (16 + 1) = 4 := by decide
        have e2 : ahead 2 16 = 4 := by decide
        rw [e2] at h5
        rw [e1, e2] at h3
        omega
      · omega
  rw [ahead2 hy] at h3 h5
  rw [ahead2 (y := y + 1) (by omega), show y + 1 - 17 = (y - 17) + 1 from by omega] at h3
  exact plain2 h2 (by omega) (by omega)
end Mine
end
section
namespace Mine
theorem endA {R e place : Int} (h3 : e ≤ 3) (p1 : place ≤ 365) (h : R = 365 * e + place) (hb : R = 1460) : e = 3 ∧ place = 365 := by omega
theorem endB {R e place : Int} (h0 : 0 ≤ e) (p0 : 0 ≤ place) (p1 : place ≤ 365) (k : place = 365 → e = 3) (h : R = 365 * e + place) (hb : ¬ R = 1460) : R / 365 = e ∧ R % 365 = place := by
  have : place ≤ 364 := by omega
  clear k hb
  omega
theorem thirty {x : Int} : x - x / 30 * 30 + 1 = x % 30 + 1 := by omega
theorem e0A {X y place : Int} (h : ∃ q e : Int, y = 4 * q + e ∧ 0 ≤ e ∧ e ≤ 3 ∧ X / 1461 = q ∧ X % 1461 = 365 * e + place ∧ 0 ≤ place ∧ place ≤ 365 ∧ (place = 365 → e = 3)) (hb : X % 1461 = 1460) :
    0 + 0 + 0 + X / 1461 * 4 + (1460 / 365 - 1) + -1 + 1 = y ∧ (365 : Int) / 30 + 1 = place / 30 + 1 ∧ (365 : Int) - 365 / 30 * 30 + 1 = place % 30 + 1 := by
  obtain ⟨q, e, f1, f2, f3, f4, f5, f6, f7, f8⟩ := h
  obtain ⟨rfl, rfl⟩ := endA f3 f7 f5 hb
  refine ⟨?_, rfl, rfl⟩
  rw [f4, f1]
  clear f4 f5 hb
  omega
theorem e0B {X y place : Int} (h : ∃ q e : Int, y = 4 * q + e ∧ 0 ≤ e ∧ e ≤ 3 ∧ X / 1461 = q ∧ X % 1461 = 365 * e + place ∧ 0 ≤ place ∧ place ≤ 365 ∧ (place = 365 → e = 3)) (hb : ¬ X % 1461 = 1460) :
    0 + 0 + 0 + X / 1461 * 4 + X % 1461 / 365 + -1 + 1 = y ∧ X % 1461 % 365 / 30 + 1 = place / 30 + 1 ∧ X % 1461 % 365 - X % 1461 % 365 / 30 * 30 + 1 = place % 30 + 1 := by
  obtain ⟨q, e, f1, f2, f3, f4, f5, f6, f7, f8⟩ := h
  obtain ⟨g1, g2⟩ := endB f2 f6 f7 f8 f5 hb
  rw [g1, g2, f4, f1]
  refine ⟨?_, rfl, thirty⟩
  clear f4 f5 hb g1 g2
  omega
theorem e1A {X y place : Int} (h : ∃ a b c d e : Int, y - 13 = 4000 * a + 400 * b + 100 * c + 4 * d + e ∧ 0 ≤ e ∧ e ≤ 3 ∧ X / 1460969 = a ∧ X % 1460969 / 146097 = b ∧ X % 1460969 % 146097 / 36524 = c ∧ X % 1460969 % 146097 % 36524 / 1461 = d ∧
      X % 1460969 % 146097 % 36524 % 1461 = 365 * e + place ∧ 0 ≤ place ∧ place ≤ 365 ∧ (place = 365 → e = 3)) (hb : X % 1460969 % 146097 % 36524 % 1461 = 1460) :
    X / 1460969 * 4000 + X % 1460969 / 146097 * 400 + X % 1460969 % 146097 / 36524 * 100 + X % 1460969 % 146097 % 36524 / 1461 * 4 + (1460 / 365 - 1) + 12 + 1 = y ∧ (365 : Int) / 30 + 1 = place / 30 + 1 ∧ (365 : Int) - 365 / 30 * 30 + 1 = place % 30 + 1 := by
  obtain ⟨a, b, c, d, e, f1, f2, f3, f4, f5, f6, f7, f8, f9, f10, f11⟩ := h
  obtain ⟨rfl, rfl⟩ := endA f3 f10 f8 hb
  refine ⟨?_, rfl, rfl⟩
  rw [f4, f5, f6, f7]
  clear f4 f5 f6 f7 f8 hb
  omega
theorem e1B {X y place : Int} (h : ∃ a b c d e : Int, y - 13 = 4000 * a + 400 * b + 100 * c + 4 * d + e ∧ 0 ≤ e ∧ e ≤ 3 ∧ X / 1460969 = a ∧ X % 1460969 / 146097 = b ∧ X % 1460969 % 146097 / 36524 = c ∧ X % 1460969 % 146097 % 36524 / 1461 = d ∧
      X % 1460969 % 146097 % 36524 % 1461 = 365 * e + place ∧ 0 ≤ place ∧ place ≤ 365 ∧ (place = 365 → e = 3)) (hb : ¬ X % 1460969 % 146097 % 36524 % 1461 = 1460) :
    X / 1460969 * 4000 + X % 1460969 / 146097 * 400 + X % 1460969 % 146097 / 36524 * 100 + X % 1460969 % 146097 % 36524 / 1461 * 4 + X % 1460969 % 146097 % 36524 % 1461 / 365 + 12 + 1 = y ∧
      X % 1460969 % 146097 % 36524 % 1461 % 365 / 30 + 1 = place / 30 + 1 ∧ X % 1460969 % 146097 % 36524 % 1461 % 365 - X % 1460969 % 146097 % 36524 % 1461 % 365 / 30 * 30 + 1 = place % 30 + 1 := by
  obtain ⟨a, b, c, d, e, f1, f2, f3, f4, f5, f6, f7, f8, f9, f10, f11⟩ := h
  obtain ⟨g1, g2⟩ := endB f2 f9 f10 f11 f8 hb
  rw [g1, g2, f4, f5, f6, f7]
  refine ⟨?_, rfl, thirty⟩
  clear f4 f5 f6 f7 f8 hb g1 g2
  omega
theorem e2A {X y place : Int} (h : ∃ a d e : Int, y - 17 = 128 * a + 4 * d + e ∧ 0 ≤ e ∧ e ≤ 3 ∧ X / 46751 = a ∧ X % 46751 / 1461 = d ∧ X % 46751 % 1461 = 365 * e + place ∧ 0 ≤ place ∧ place ≤ 365 ∧ (place = 365 → e = 3)) (hb : X % 46751 % 1461 = 1460) :
    0 + 0 + X / 46751 * 128 + X % 46751 / 1461 * 4 + (1460 / 365 - 1) + 16 + 1 = y ∧ (365 : Int) / 30 + 1 = place / 30 + 1 ∧ (365 : Int) - 365 / 30 * 30 + 1 = place % 30 + 1 := by
  obtain ⟨a, d, e, f1, f2, f3, f4, f7, f8, f9, f10, f11⟩ := h
  obtain ⟨rfl, rfl⟩ := endA f3 f10 f8 hb
  refine ⟨?_, rfl, rfl⟩
  rw [f4, f7]
  clear f4 f7 f8 hb
  omega
theorem e2B {X y place : Int} (h : ∃ a d e : Int, y - 17 = 128 * a + 4 * d + e ∧ 0 ≤ e ∧ e ≤ 3 ∧ X / 46751 = a ∧ X % 46751 / 1461 = d ∧ X % 46751 % 1461 = 365 * e + place ∧ 0 ≤ place ∧ place ≤ 365 ∧ (place = 365 → e = 3)) (hb : ¬ X % 46751 % 1461 = 1460) :
    0 + 0 + X / 46751 * 128 + X % 46751 / 1461 * 4 + X % 46751 % 1461 / 365 + 16 + 1 = y ∧ X % 46751 % 1461 % 365 / 30 + 1 = place / 30 + 1 ∧ X % 46751 % 1461 % 365 - X % 46751 % 1461 % 365 / 30 * 30 + 1 = place % 30 + 1 := by
  obtain ⟨a, d, e, f1, f2, f3, f4, f7, f8, f9, f10, f11⟩ := h
  obtain ⟨g1, g2⟩ := endB f2 f9 f10 f11 f8 hb
  rw [g1, g2, f4, f7]
  refine ⟨?_, rfl, thirty⟩
  clear f4 f7 f8 hb g1 g2
  omega
end Mine
end
section
open PySem PySem.W PyProof.Rows
namespace Mine
set_option maxRecDepth 100000
set_option maxHeartbeats 4000000
theorem c_trunc {w : World} {mean : ExcName → Option Value} {mg mb : PySem.Str → Option Value} : (PySem.Challenge.rw_aq6008_01 = PySem.Challenge.rw_aq6008_01) → CTrunc PySem.Challenge.rw_aq6008_01.row.prog w (Mine.hd.heap_39 w.params) Mine.hd.view_39 (looseW Mine.hd.view_39 [PySem.Str.ofString "from_jd"]) mean mg mb := by
  k_fill
  intro _
  unfold CTrunc
  intro a b ta tb news
  dsimp only [CbRec, CbLists, CbRet]
  intros
  rename_i hret
  refine wpAny_call ?_
  k_dflt cell_enter
  k_steps
  all_goals (refine' end_I hret ?e1 ?e2 ?e3; (case e1 => k_asm); (case e2 => k_asm); (case e3 => cb_eq))
end Mine
end
section
open PySem PySem.W PyProof.Rows
namespace Mine
set_option maxRecDepth 100000
set_option maxHeartbeats 4000000
local macro_rules | `(tactic| k_room) => `(tactic| ktr_room)

theorem c_first {w : World} {mean : ExcName → Option Value} {mg mb : PySem.Str → Option Value} : (PySem.Challenge.rw_aq6008_01 = PySem.Challenge.rw_aq6008_01) → CFirst PySem.Challenge.rw_aq6008_01.row.prog w (Mine.hd.heap_39 w.params) Mine.hd.view_39 (looseW Mine.hd.view_39 [PySem.Str.ofString "from_jd"]) mean mg mb := by
  k_fill
  intro _
  unfold CFirst
  intro r y tr ty news
  dsimp only [CbRec, CbLists, CbRet]
  intros
  rename_i hret
  refine wpAny_call ?_
  k_dflt cell_enter
  k_steps
  all_goals (refine' end_I hret ?e1 ?e2 ?e3; (case e1 => k_asm); (case e2 => k_asm); (case e3 => (simp (disch := decide) only [Int.fdiv_eq_ediv_of_nonneg]; unfold firstF ahead; (repeat' split) <;> omega)))
end Mine
end
section
open PySem PySem.W PyProof.Rows
namespace Mine
set_option maxRecDepth 100000
set_option maxHeartbeats 4000000
local macro_rules | `(tactic| k_room) => `(tactic| ktr_room)

local macro_rules | `(tactic| walk_at "m get") => `(tactic| first | with_reducible exact GetAt.head | ((with_reducible refine' GetAt.tail ?nx); (case nx => walk_at "m get")))
local macro_rules | `(tactic| walk_at "m set") => `(tactic| first | with_reducible exact SetAt.head | ((with_reducible refine' SetAt.tail ?nx); (case nx => walk_at "m set")))
local macro_rules | `(tactic| walk_at "m setall") => `(tactic| first | with_reducible exact SetAll.nil | ((with_reducible refine' SetAll.cons ?s1 ?s2); (case s1 => walk_at "m set"); (case s2 => walk_at "m setall")))
local macro_rules | `(tactic| walk_at "m cs") => `(tactic| first | with_reducible exact Cs.nil | ((with_reducible refine' Cs.int ?nx); (case nx => walk_at "m cs")) | ((with_reducible refine' Cs.none ?nx); (case nx => walk_at "m cs")))
local macro_rules | `(tactic| walk_at "m ns") => `(tactic| first | with_reducible exact Ns.nil | ((with_reducible refine' Ns.cons ?nx); (case nx => walk_at "m ns")))
local macro_rules | `(tactic| walk_at "m pos") => `(tactic| first | omega | decide)
local macro_rules | `(tactic| walk_at "m ev") => `(tactic| first
  | with_reducible exact ev_const
  | ((with_reducible refine' ev_loc (by assumption) ?g); (case g => walk_at "m get"))
  | ((with_reducible refine' ev_glo (by assumption) ?g); (case g => with_reducible assumption))
  | ((with_reducible refine' ev_add ?a ?b); (case a => walk_at "m ev"); (case b => walk_at "m ev"))
  | ((with_reducible refine' ev_sub ?a ?b); (case a => walk_at "m ev"); (case b => walk_at "m ev"))
  | ((with_reducible refine' ev_mul ?a ?b ?hm); (case a => walk_at "m ev"); (case b => walk_at "m ev"); (case hm => mul_fits))
  | ((with_reducible refine' ev_mod ?a ?b ?hy); (case a => walk_at "m ev"); (case b => walk_at "m ev"); (case hy => walk_at "m pos"))
  | ((with_reducible refine' ev_neg ?a); (case a => walk_at "m ev"))
  | ((with_reducible refine' ev_trunc (by assumption) ?g ?hk ?R ?a ?b ?hx ?hy ?hy2 ?s1 ?s2); (case g => with_reducible assumption); (case hk => with_reducible assumption); (case R => with_reducible assumption); (case a => walk_at "m ev"); (case b => walk_at "m ev"); (case hx => walk_at "m pos"); (case hy => walk_at "m pos"); (case hy2 => walk_at "m pos"); (case s1 => exact fun _ => rfl); (case s2 => exact fun _ => rfl)))
local macro_rules | `(tactic| walk_at "m te") => `(tactic| first
  | with_reducible exact te_and_nil
  | with_reducible exact te_or_nil
  | ((with_reducible refine' te_and ?a ?b); (case a => walk_at "m te"); (case b => walk_at "m te"))
  | ((with_reducible refine' te_or ?a ?b); (case a => walk_at "m te"); (case b => walk_at "m te"))
  | ((with_reducible refine' te_rule (by assumption) ?g ?h ?hm); (case g => walk_at "m get"); (case h => first | with_reducible assumption | exact askIn_int _ rfl); (case hm => rfl))
  | ((with_reducible refine' te_lt ?a ?b ?hm); (case a => walk_at "m ev"); (case b => walk_at "m ev"); (case hm => rfl))
  | ((with_reducible refine' te_le ?a ?b ?hm); (case a => walk_at "m ev"); (case b => walk_at "m ev"); (case hm => rfl))
  | ((with_reducible refine' te_eq ?a ?b ?hm); (case a => walk_at "m ev"); (case b => walk_at "m ev"); (case hm => rfl))
  | ((with_reducible refine' te_none (by assumption) ?g); (case g => walk_at "m get"))
  | ((with_reducible refine' te_int (by assumption) ?g); (case g => walk_at "m get")))
local macro_rules | `(tactic| walk_at "m st") => `(tactic| first
  | with_reducible refine' st_nil ?nx
  | ((with_reducible refine' st_assign (by assumption) ?he ?g ?sw ?S); (case he => walk_at "m ev"); (case g => walk_at "m set"); (case sw => rfl))
  | ((with_reducible refine' st_tup (by assumption) ?n ?c ?s ?l ?z ?w1 ?w2 ?S); (case n => walk_at "m ns"); (case c => walk_at "m cs"); (case s => walk_at "m setall"); (case l => rfl); (case z => exact Nat.le_of_ble_eq_true rfl); (case w1 => rfl); (case w2 => exact swapped_none (by decide)))
  | ((with_reducible refine' st_if ?t ?a ?b); (case t => walk_at "m te"); (rotate_left 0))
  | ((with_reducible refine' st_ret ?he ?k); (case he => walk_at "m ev")))

local macro_rules | `(tactic| walk_at "m br") => `(tactic| ((with_reducible show (_ = _) → St _ _ _ _ _ _ _ _); intro hb; (try (simp at hb))))

theorem c_to {w : World} {mean : ExcName → Option Value} {mg mb : PySem.Str → Option Value} : (PySem.Challenge.rw_aq6008_01 = PySem.Challenge.rw_aq6008_01) → 
  CTrunc PySem.Challenge.rw_aq6008_01.row.prog w (Mine.hd.heap_39 w.params) Mine.hd.view_39 (looseW Mine.hd.view_39 [PySem.Str.ofString "from_jd"]) mean mg mb →
  CToR PySem.Challenge.rw_aq6008_01.row.prog w (Mine.hd.heap_39 w.params) Mine.hd.view_39 (looseW Mine.hd.view_39 [PySem.Str.ofString "from_jd"]) mean mg mb := by
  k_fill
  intro _ hT
  unfold CToR
  intro r v y mo d ty tmo td news hr
  dsimp only [CbRec, CbLists, CbRet]
  intro dp un gd cn cs a ccd cl outer A₀ base h₀ L m s Q E hB hF hX hN hTop hk hy hd hu hret
  refine wpAny_call ?_
  k_dflt cell_enter
  rename_i g' L' h' FG' F' N' B' X' T'
  have hEnd : ∀ (n : Int) (t : Tok) (h : Heap) (m₁ : PySem.Str → Option Value) (tk : Nat), n = firstF r y + 30 * (mo - 1) + (d - 1) → Fr g' L' h m₁ → News g' L' h news → qk (.ret (.int n t)) ⟨h, s.gens, s.drawn, tk, s.os⟩ := by
    intro n t h m₁ tk e F N
    subst e
    exact leaveK_ F N (fun F0 N0 => hret _ _ _ F0 N0)
  refine st_go (c := ⟨_, w, _, _, _, L', _, _, g', toKs, news, Mine.hd.heap_39 w.params⟩) (ks := toKs) (vs := [.int y, .int mo, .int d, .is v, .unset, .unset, .unset, .unset, .unset, .unset, .unset, .unset, .unset, .unset, .unset, .unset, .unset, .unset]) F' ⟨⟨_, rfl⟩, ⟨_, rfl⟩, ⟨_, rfl⟩, rfl, trivial, trivial, trivial, trivial, trivial, trivial, trivial, trivial, trivial, trivial, trivial, trivial, trivial, trivial, trivial⟩ N' ?GG ?SS
  case GG => exact ⟨rfl, rfl, toKs_nodup, by (dsimp only; decide +kernel), X', rfl, ⟨_, _, _, _, topRead_of T'⟩⟩
  intro c hc G
  have hEnd : ∀ (n : Int) (t : Tok) (h : Heap) (m₁ : PySem.Str → Option Value) (tk : Nat), n = firstF r y + 30 * (mo - 1) + (d - 1) → Fr c.g c.L h m₁ → News c.g c.L h c.news → qk (.ret (.int n t)) ⟨h, s.gens, s.drawn, tk, s.os⟩ := by
    subst hc
    intro n t h m₁ tk e F N
    subst e
    exact leaveK_ F N (fun F0 N0 => hret _ _ _ F0 N0)
  have hTr : TrOk c 21 := by
    subst hc
    exact fun x y tx ty m h gs d tk o Q E F N hx hy hy2 ret => use_I (hT x y tx ty news) B' F X' N T' rfl ⟨hx, hy, hy2⟩ (by ktr_room) (by ktr_units) fun t h' tk' F N => ret t h' tk' F N
  have g1 : Glo c (PySem.Str.ofString "trunc") (.ref 21) := by subst hc; exact ⟨by (dsimp only; k_is), rfl, rfl⟩
  have g2 : Glo c (PySem.Str.ofString "EPOCH") (.int 2375840 200) := by subst hc; exact ⟨by (dsimp only; k_is), rfl, rfl⟩
  have g3 : Glo c (PySem.Str.ofString "DAYS_IN_YEAR") (.int 365 202) := by subst hc; exact ⟨by (dsimp only; k_is), rfl, rfl⟩
  have g4 : Glo c (PySem.Str.ofString "LEAP_CYCLE_DAYS") (.int 1461 204) := by subst hc; exact ⟨by (dsimp only; k_is), rfl, rfl⟩
  have g5 : Glo c (PySem.Str.ofString "LEAP_CYCLE_YEARS") (.int 4 206) := by subst hc; exact ⟨by (dsimp only; k_is), rfl, rfl⟩
  have hK : keepIn c.K (.ref 21) = true := by subst hc; (dsimp only; k_is)
  obtain ⟨a0, a1, a2⟩ := askIn_rule (c := c) hr
  clear hc hT FG' F' N' B' X' T' hB hF hX hN hTop hk hret hd hu
  clear_value qk ek
  have hr3 : r = 0 ∨ r = 1 ∨ r = 2 := by
    rcases hr with ⟨e, _⟩ | ⟨e, _⟩ | ⟨e, _⟩
    · exact .inl e
    · exact .inr (.inl e)
    · exact .inr (.inr e)
  clear hr
  rcases hr3 with rfl | rfl | rfl
  all_goals (
    repeat' (first | walk_at "m st" | walk_at "m br")
    all_goals (
      intro m₁ t₁ h₁ tk₁ F₁ N₁
      refine hEnd _ _ _ _ _ ?_ F₁ N₁
      clear hEnd F₁ N₁
      simp [firstF, ahead]
      first | omega | (split <;> omega)))
end Mine
end
section
open PySem PySem.W PyProof.Rows
namespace Mine
set_option maxRecDepth 100000
set_option maxHeartbeats 4000000
local macro_rules | `(tactic| k_room) => `(tactic| ktr_room)

local macro_rules | `(tactic| walk_at "m get") => `(tactic| first | with_reducible exact GetAt.head | ((with_reducible refine' GetAt.tail ?nx); (case nx => walk_at "m get")))
local macro_rules | `(tactic| walk_at "m set") => `(tactic| first | with_reducible exact SetAt.head | ((with_reducible refine' SetAt.tail ?nx); (case nx => walk_at "m set")))
local macro_rules | `(tactic| walk_at "m setall") => `(tactic| first | with_reducible exact SetAll.nil | ((with_reducible refine' SetAll.cons ?s1 ?s2); (case s1 => walk_at "m set"); (case s2 => walk_at "m setall")))
local macro_rules | `(tactic| walk_at "m cs") => `(tactic| first | with_reducible exact Cs.nil | ((with_reducible refine' Cs.int ?nx); (case nx => walk_at "m cs")) | ((with_reducible refine' Cs.none ?nx); (case nx => walk_at "m cs")))
local macro_rules | `(tactic| walk_at "m ns") => `(tactic| first | with_reducible exact Ns.nil | ((with_reducible refine' Ns.cons ?nx); (case nx => walk_at "m ns")))
local macro_rules | `(tactic| walk_at "m pos") => `(tactic| first | omega | decide)
local macro_rules | `(tactic| walk_at "m ev") => `(tactic| first
  | with_reducible exact ev_const
  | ((with_reducible refine' ev_loc (by assumption) ?g); (case g => walk_at "m get"))
  | ((with_reducible refine' ev_glo (by assumption) ?g); (case g => with_reducible assumption))
  | ((with_reducible refine' ev_add ?a ?b); (case a => walk_at "m ev"); (case b => walk_at "m ev"))
  | ((with_reducible refine' ev_sub ?a ?b); (case a => walk_at "m ev"); (case b => walk_at "m ev"))
  | ((with_reducible refine' ev_mul ?a ?b ?hm); (case a => walk_at "m ev"); (case b => walk_at "m ev"); (case hm => mul_fits))
  | ((with_reducible refine' ev_mod ?a ?b ?hy); (case a => walk_at "m ev"); (case b => walk_at "m ev"); (case hy => walk_at "m pos"))
  | ((with_reducible refine' ev_neg ?a); (case a => walk_at "m ev"))
  | ((with_reducible refine' ev_trunc (by assumption) ?g ?hk ?R ?a ?b ?hx ?hy ?hy2 ?s1 ?s2); (case g => with_reducible assumption); (case hk => with_reducible assumption); (case R => with_reducible assumption); (case a => walk_at "m ev"); (case b => walk_at "m ev"); (case hx => walk_at "m pos"); (case hy => walk_at "m pos"); (case hy2 => walk_at "m pos"); (case s1 => exact fun _ => rfl); (case s2 => exact fun _ => rfl)))
local macro_rules | `(tactic| walk_at "m te") => `(tactic| first
  | with_reducible exact te_and_nil
  | with_reducible exact te_or_nil
  | ((with_reducible refine' te_and ?a ?b); (case a => walk_at "m te"); (case b => walk_at "m te"))
  | ((with_reducible refine' te_or ?a ?b); (case a => walk_at "m te"); (case b => walk_at "m te"))
  | ((with_reducible refine' te_rule (by assumption) ?g ?h ?hm); (case g => walk_at "m get"); (case h => first | with_reducible assumption | exact askIn_int _ rfl); (case hm => rfl))
  | ((with_reducible refine' te_lt ?a ?b ?hm); (case a => walk_at "m ev"); (case b => walk_at "m ev"); (case hm => rfl))
  | ((with_reducible refine' te_le ?a ?b ?hm); (case a => walk_at "m ev"); (case b => walk_at "m ev"); (case hm => rfl))
  | ((with_reducible refine' te_eq ?a ?b ?hm); (case a => walk_at "m ev"); (case b => walk_at "m ev"); (case hm => rfl))
  | ((with_reducible refine' te_none (by assumption) ?g); (case g => walk_at "m get"))
  | ((with_reducible refine' te_int (by assumption) ?g); (case g => walk_at "m get")))
local macro_rules | `(tactic| walk_at "m st") => `(tactic| first
  | with_reducible refine' st_nil ?nx
  | ((with_reducible refine' st_assign (by assumption) ?he ?g ?sw ?S); (case he => walk_at "m ev"); (case g => walk_at "m set"); (case sw => rfl))
  | ((with_reducible refine' st_tup (by assumption) ?n ?c ?s ?l ?z ?w1 ?w2 ?S); (case n => walk_at "m ns"); (case c => walk_at "m cs"); (case s => walk_at "m setall"); (case l => rfl); (case z => exact Nat.le_of_ble_eq_true rfl); (case w1 => rfl); (case w2 => exact swapped_none (by decide)))
  | ((with_reducible refine' st_if ?t ?a ?b); (case t => walk_at "m te"); (rotate_left 0))
  | ((with_reducible refine' st_three (by assumption) ?g1 ?g2 ?g3 ?w ?S); (case g1 => walk_at "m set"); (case g2 => walk_at "m set"); (case g3 => walk_at "m set"); (case w => rfl))
  | ((with_reducible refine' st_ret3 ?e1 ?e2 ?e3 ?s1 ?s2 ?s3 ?k); (case e1 => walk_at "m ev"); (case e2 => walk_at "m ev"); (case e3 => walk_at "m ev"); (case s1 => exact fun _ => rfl); (case s2 => exact fun _ => rfl); (case s3 => exact fun _ => rfl))
  | ((with_reducible refine' st_ret ?he ?k); (case he => walk_at "m ev")))

local macro_rules | `(tactic| walk_at "m br") => `(tactic| ((with_reducible show (_ = _) → St _ _ _ _ _ _ _ _); intro hb; (try (simp at hb)); (try (exfalso; omega))))

theorem c_from {w : World} {mean : ExcName → Option Value} {mg mb : PySem.Str → Option Value} : (PySem.Challenge.rw_aq6008_01 = PySem.Challenge.rw_aq6008_01) → 
  CTrunc PySem.Challenge.rw_aq6008_01.row.prog w (Mine.hd.heap_39 w.params) Mine.hd.view_39 (looseW Mine.hd.view_39 [PySem.Str.ofString "from_jd"]) mean mg mb →
  CFromR PySem.Challenge.rw_aq6008_01.row.prog w (Mine.hd.heap_39 w.params) Mine.hd.view_39 (looseW Mine.hd.view_39 [PySem.Str.ofString "from_jd"]) mean mg mb := by
  k_fill
  intro _ hT
  unfold CFromR C3
  intro r v y place jd tj news hr hp
  intro dp un gd cn cs a ccd cl outer A₀ base h₀ L m s Q E hB hF hX hN hTop hk hd hu hret
  have hj := hp.epoch hr.three
  refine wpAny_call ?_
  k_dflt cell_enter
  rename_i g' L' h' FG' F' N' B' X' T'
  refine st_go (c := ⟨_, w, _, _, _, L', _, _, g', frKs, news, Mine.hd.heap_39 w.params⟩) (ks := frKs) (vs := [.int jd, .is v, .unset, .unset, .unset, .unset, .unset, .unset, .unset, .unset, .unset, .unset, .unset, .unset, .unset, .unset, .unset]) F' ⟨⟨_, rfl⟩, rfl, trivial, trivial, trivial, trivial, trivial, trivial, trivial, trivial, trivial, trivial, trivial, trivial, trivial, trivial, trivial, trivial⟩ N' ?GG ?SS
  case GG => exact ⟨rfl, rfl, frKs_nodup, by (dsimp only; decide +kernel), X', rfl, ⟨_, _, _, _, topRead_of T'⟩⟩
  intro c hc G
  have hEnd : ∀ (x₁ y₁ z₁ : Int) (t1 t2 t3 : Tok) (D : Addr) (h : Heap) (m₁ : PySem.Str → Option Value) (tk : Nat), x₁ = y → y₁ = place / 30 + 1 → z₁ = place % 30 + 1 → Fr c.g c.L h m₁ → News c.g c.L h ((D, tup3 x₁ y₁ z₁ t1 t2 t3) :: c.news) → (∀ p ∈ c.news, p.1 < D) → qk (.ret (.ref D)) ⟨h, s.gens, s.drawn, tk, s.os⟩ := by
    subst hc
    intro x₁ y₁ z₁ t1 t2 t3 D h m₁ tk e1 e2 e3 F N hl
    subst e1 e2 e3
    exact leaveK_ F N (fun F0 N0 => hret _ _ _ _ _ _ F0 N0 hl)
  have hTr : TrOk c 21 := by
    subst hc
    exact fun x y tx ty m h gs d tk o Q E F N hx hy hy2 ret => use_I (hT x y tx ty news) B' F X' N T' rfl ⟨hx, hy, hy2⟩ (by ktr_room) (by ktr_units) fun t h' tk' F N => ret t h' tk' F N
  have g1 : Glo c (PySem.Str.ofString "trunc") (.ref 21) := by subst hc; exact ⟨by (dsimp only; k_is), rfl, rfl⟩
  have g2 : Glo c (PySem.Str.ofString "EPOCH") (.int 2375840 200) := by subst hc; exact ⟨by (dsimp only; k_is), rfl, rfl⟩
  have g3 : Glo c (PySem.Str.ofString "DAYS_IN_YEAR") (.int 365 202) := by subst hc; exact ⟨by (dsimp only; k_is), rfl, rfl⟩
  have g4 : Glo c (PySem.Str.ofString "LEAP_CYCLE_DAYS") (.int 1461 204) := by subst hc; exact ⟨by (dsimp only; k_is), rfl, rfl⟩
  have g5 : Glo c (PySem.Str.ofString "LEAP_CYCLE_YEARS") (.int 4 206) := by subst hc; exact ⟨by (dsimp only; k_is), rfl, rfl⟩
  have hK : keepIn c.K (.ref 21) = true := by subst hc; (dsimp only; k_is)
  obtain ⟨a0, a1, a2⟩ := askIn_rule (c := c) hr
  clear hc hT FG' F' N' B' X' T' hB hF hX hN hTop hk hret hd hu
  clear_value qk ek
  have hr3 := hr.three
  clear hr
  rcases hr3 with rfl | rfl | rfl
  all_goals (
    repeat' (first | walk_at "m st" | walk_at "m br")
    all_goals (
      intro m₁ D₁ t₁ t₂ t₃ h₁ tk₁ F₁ N₁ l₁
      first
      | (have k := e0A (split0 hp) (by assumption); exact hEnd _ _ _ _ _ _ _ _ _ _ k.1 k.2.1 k.2.2 F₁ N₁ l₁)
      | (have k := e0B (split0 hp) (by assumption); exact hEnd _ _ _ _ _ _ _ _ _ _ k.1 k.2.1 k.2.2 F₁ N₁ l₁)
      | (have k := e0A (split0a hp (by assumption)) (by assumption); exact hEnd _ _ _ _ _ _ _ _ _ _ k.1 k.2.1 k.2.2 F₁ N₁ l₁)
      | (have k := e0B (split0a hp (by assumption)) (by assumption); exact hEnd _ _ _ _ _ _ _ _ _ _ k.1 k.2.1 k.2.2 F₁ N₁ l₁)
      | (have k := e1A (split1 hp (by assumption)) (by assumption); exact hEnd _ _ _ _ _ _ _ _ _ _ k.1 k.2.1 k.2.2 F₁ N₁ l₁)
      | (have k := e1B (split1 hp (by assumption)) (by assumption); exact hEnd _ _ _ _ _ _ _ _ _ _ k.1 k.2.1 k.2.2 F₁ N₁ l₁)
      | (have k := e0A (split0b hp (by assumption)) (by assumption); exact hEnd _ _ _ _ _ _ _ _ _ _ k.1 k.2.1 k.2.2 F₁ N₁ l₁)
      | (have k := e0B (split0b hp (by assumption)) (by assumption); exact hEnd _ _ _ _ _ _ _ _ _ _ k.1 k.2.1 k.2.2 F₁ N₁ l₁)
      | (have k := e2A (split2 hp (by assumption)) (by assumption); exact hEnd _ _ _ _ _ _ _ _ _ _ k.1 k.2.1 k.2.2 F₁ N₁ l₁)
      | (have k := e2B (split2 hp (by assumption)) (by assumption); exact hEnd _ _ _ _ _ _ _ _ _ _ k.1 k.2.1 k.2.2 F₁ N₁ l₁)))
end Mine
end
section
open PySem PySem.W PyProof.Rows
namespace Mine
set_option maxRecDepth 100000
set_option maxHeartbeats 4000000
local macro_rules | `(tactic| k_room) => `(tactic| ktr_room)
section
variable (prog : Program) (w : World) (K : Frag) (p : Program) (loose : List PySem.Str) (mean : ExcName → Option Value) (mg mb : PySem.Str → Option Value)
def CYear : Prop :=
  ∀ (r k z st : Int) (tr tk tz ts : Tok) (news : List (Addr × Obj)), 0 ≤ k → k < 5 → 0 ≤ z → 
  ∀ (dp un : Nat) (gd : Option (List Code)) (cn : PySem.Str) (cs : Scope) (a : Addr) (ccd : Value) (cl : List (PySem.Str × Addr)) (outer : List Env) (A₀ : Around) (base h₀ : Heap) (L : Addr) (m : PySem.Str → Option Value) (s : Shared) (Q E : Value → Shared → Prop),
    Below A₀ base outer h₀ → Fr h₀ L s.heap m → K.In h₀ → News h₀ L s.heap news → Top p loose mean mg mb h₀ → cs.kind = .function → dp + 1 < recursionLimit → un + 8 < cLine →
    (∀ (n : Int) (t : Tok) (h' : Heap) (tk' : Nat), 1 ≤ n → Fr h₀ L h' m → News h₀ L h' news → Q (.int n t) { s with heap := h', toks := tk' }) →
    wpAny (model prog w) (ktrTop dp un gd cn cs L a ccd cl outer) (call (.ref 72) [.int r tr, .int k tk, .int z tz, .int st ts]) Q E s
end
theorem yr1 {z : Int} (h : 0 ≤ z) : 1 ≤ 1 + z := by omega
theorem yr2 {z : Int} : 1 ≤ 1 + z.fmod 40 := by
  have := Int.fmod_nonneg_of_pos z (b := 40) (by decide)
  omega
theorem yrT {z st : Int} {A T : Int} (hA : 1 ≤ A) (hT : 0 ≤ T) : 1 ≤ A + T * (1 + z.fmod (10 ^ Int.toNat 9)) + st.fmod 3 - 1 + 1 := by
  have h9 : 0 ≤ z.fmod (10 ^ Int.toNat 9) := Int.fmod_nonneg_of_pos z (by decide)
  have h3 := Int.fmod_nonneg_of_pos st (b := 3) (by decide)
  have := Int.mul_nonneg hT (show 0 ≤ 1 + z.fmod (10 ^ Int.toNat 9) from by omega)
  omega
theorem yr3 {z st : Int} : 1 ≤ 12 + 100 * (1 + z.fmod (10 ^ Int.toNat 9)) + st.fmod 3 - 1 := by
  have := yrT (z := z) (st := st) (A := 11) (T := 100) (by decide) (by decide)
  omega
theorem yr4 {z st : Int} : 1 ≤ 12 + 400 * (1 + z.fmod (10 ^ Int.toNat 9)) + st.fmod 3 - 1 := by
  have := yrT (z := z) (st := st) (A := 11) (T := 400) (by decide) (by decide)
  omega
theorem yr5 {z st : Int} : 1 ≤ 12 + 4000 * (1 + z.fmod (10 ^ Int.toNat 9)) + st.fmod 3 - 1 := by
  have := yrT (z := z) (st := st) (A := 11) (T := 4000) (by decide) (by decide)
  omega
theorem yr6 {z st : Int} : 1 ≤ 16 + 128 * (1 + z.fmod (10 ^ Int.toNat 9)) + st.fmod 3 - 1 := by
  have := yrT (z := z) (st := st) (A := 15) (T := 128) (by decide) (by decide)
  omega
theorem c_year {w : World} {mean : ExcName → Option Value} {mg mb : PySem.Str → Option Value} : (PySem.Challenge.rw_aq6008_01 = PySem.Challenge.rw_aq6008_01) → 
  CYear PySem.Challenge.rw_aq6008_01.row.prog w (Mine.hd.heap_39 w.params) Mine.hd.view_39 (looseW Mine.hd.view_39 [PySem.Str.ofString "from_jd"]) mean mg mb := by
  k_fill
  intro _
  unfold CYear
  intro r k z st tr tk tz ts news hk0 hk5 hz dp un gd cn cs a ccd cl outer A₀ base h₀ L m s Q E hB hF hX hN hTop hk hd hu hret
  have hk : k = 0 ∨ k = 1 ∨ k = 2 ∨ k = 3 ∨ k = 4 := by omega
  clear hk0 hk5
  rcases hk with rfl | rfl | rfl | rfl | rfl
  all_goals (
    refine wpAny_call ?_
    k_dflt cell_enter
    k_steps
    all_goals (
      refine hret _ _ _ _ ?_ (by k_asm) (by first | k_asm | (refine' cb_drop ?cbN ?cbS; (case cbN => assumption); (case cbS => kcj_all)))
      first
      | exact yr1 hz
      | exact yr2
      | exact yr3
      | exact yr4
      | exact yr5
      | exact yr6))
end Mine
end
section
open PySem PySem.W PyProof.Rows
namespace Mine
set_option maxRecDepth 100000
set_option maxHeartbeats 4000000
section
variable (prog : Program) (w : World) (K : Frag) (p : Program) (loose : List PySem.Str) (mean : ExcName → Option Value) (mg mb : PySem.Str → Option Value)
def CFromJd : Prop :=
  ∀ (r : Int) (v : Value) (y place jd : Int) (tj : Tok) (news : List (Addr × Obj)), IsRule r v → FromPre r y place jd →
    C3 prog w K p loose mean mg mb 36 news 3 [.int jd tj, v] y (place / 30 + 1) (place % 30 + 1)
end
section
variable {prog : Program} {w : World} {K : Frag} {p : Program} {loose : List PySem.Str} {mean : ExcName → Option Value} {mg mb : PySem.Str → Option Value} {f : Addr} {news : List (Addr × Obj)} {sz : Nat} {vs : List Value} {x y z : Int}
  {dp un : Nat} {gd : Option (List Code)} {cn : PySem.Str} {cs : Scope} {a : Addr} {ccd : Value} {cl : List (PySem.Str × Addr)} {outer : List Env} {A₀ : Around} {base h₀ : Heap} {L : Addr} {m : PySem.Str → Option Value} {s : Shared} {Q E : Value → Shared → Prop}
theorem use_3 (C : C3 prog w K p loose mean mg mb f news sz vs x y z)
    (B : Below A₀ base outer h₀) (F : Fr h₀ L s.heap m) (X : K.In h₀) (N : News h₀ L s.heap news) (T : Top p loose mean mg mb h₀) (hk : cs.kind = .function)
    (hd : dp + sz + 1 < recursionLimit) (hu : un + 8 * (sz + 1) < cLine)
    (ret : ∀ (D : Addr) (t1 t2 t3 : Tok) (h' : Heap) (tk' : Nat), Fr h₀ L h' m → News h₀ L h' ((D, tup3 x y z t1 t2 t3) :: news) → (∀ p ∈ news, p.1 < D) → Q (.ref D) { s with heap := h', toks := tk' }) :
    wpAny (model prog w) (ktrTop dp un gd cn cs L a ccd cl outer) (call (.ref f) vs) Q E s :=
  C dp un gd cn cs a ccd cl outer A₀ base h₀ L m s Q E B F X N T hk hd hu ret
end
local macro_rules | `(tactic| k_room) => `(tactic| ktr_room)
local macro_rules | `(tactic| walk_at "call ref") => `(tactic| (k_here; (rename CFromR _ _ _ _ _ _ _ _ => hC); k_dflt (refine' use_3 (hC _ _ _ _ _ _ _ (by assumption) (by assumption)) ?k1 ?k2 ?k3 ?k4 ?k5 ?kK ?kd ?ku ?_); (case k1 => k_asm); (case k2 => k_asm); (case k3 => k_asm); (case k4 => k_asm); (case k5 => k_asm); (case kK => first | exact rfl | assumption); (case kd => ktr_room); (case ku => ktr_units); intro D9 t91 t92 t93 h9 tk9 F9 N9 l9; (try dsimp only); (try k_fold)))
local macro_rules | `(tactic| walk_at "m enter") => `(tactic| (
    (refine' code_def ?b ?f ?x ?n ?t rfl rfl ?hk ?ho ?hcode ?hroom ?hbind ?hloc ?_ ?hco ?hgen ?hkind ?hcell);
    (case b => assumption); (case f => assumption); (case x => assumption); (case n => assumption); (case t => assumption); (case hk => assumption);
    (case ho => k_is); (case hcode => k_is); (case hroom => ktr_room); (case hbind => exact binds_K (by k_in) rfl (by k_is) rfl rfl rfl);
    (case hcell => decide); (case hloc => exact locs rfl); (case hco => exact rfl); (case hgen => exact rfl); (case hkind => exact rfl);
    intro g' L' h' FG' F' N' B' X' T'; (try dsimp only); (try k_fold)))
theorem c_fromjd {w : World} {mean : ExcName → Option Value} {mg mb : PySem.Str → Option Value} : (PySem.Challenge.rw_aq6008_01 = PySem.Challenge.rw_aq6008_01) → 
  CFromR PySem.Challenge.rw_aq6008_01.row.prog w (Mine.hd.heap_39 w.params) Mine.hd.view_39 (looseW Mine.hd.view_39 [PySem.Str.ofString "from_jd"]) mean mg mb →
  CFromJd PySem.Challenge.rw_aq6008_01.row.prog w (Mine.hd.heap_39 w.params) Mine.hd.view_39 (looseW Mine.hd.view_39 [PySem.Str.ofString "from_jd"]) mean mg mb := by
  k_fill
  intro _ hT
  unfold CFromJd C3
  intro r v y place jd tj news hr hp dp un gd cn cs a ccd cl outer A₀ base h₀ L m s Q E hB hF hX hN hTop hk hd hu hret
  have hr' := hr
  rcases hr' with ⟨rfl, ⟨tv, rfl⟩ | ⟨tv, rfl⟩⟩ | ⟨rfl, ⟨tv, rfl⟩ | ⟨tv, rfl⟩⟩ | ⟨rfl, ⟨tv, rfl⟩ | ⟨tv, rfl⟩⟩
  all_goals (
    refine wpAny_call ?_
    walk_at "m enter"
    k_steps
    all_goals exact hret _ _ _ _ _ _ (by k_asm) (by k_asm) (by assumption))
end Mine
end
section
open PySem PySem.W PyProof.Rows PySem.Calls
namespace Mine
theorem pre_of {r y p : Int} (h1 : 1 ≤ y) (h2 : 0 ≤ p) (h3 : p < firstF r (y + 1) - firstF r y) (h4 : ¬ (r = 1 ∧ y.fmod 400 = 12 ∧ p = 365)) : FromPre r y p (firstF r y + p) :=
  ⟨h1, h2, h3, fun q => h4 ⟨q.1, by rw [Int.fmod_eq_emod_of_nonneg y (by decide)]; exact q.2.1, q.2.2⟩, rfl⟩
theorem pre_next {r y : Int} (hr : r = 0 ∨ r = 1 ∨ r = 2) (h1 : 1 ≤ y) : FromPre r (y + 1) 0 (firstF r y + (firstF r (y + 1) - firstF r y)) := by
  have := days_of (r := r) (y := y + 1) (by omega) (by omega) (by omega)
  exact ⟨by omega, by omega, by omega, by omega, by omega⟩

section
variable {prog : Program} {w : World} {K : Frag} {p : Program} {loose : List PySem.Str} {mean : ExcName → Option Value} {mg mb : PySem.Str → Option Value} {f : Addr} {news : List (Addr × Obj)} {sz : Nat}
  {dp un : Nat} {gd : Option (List Code)} {cn : PySem.Str} {cs : Scope} {a : Addr} {ccd : Value} {cl : List (PySem.Str × Addr)} {outer : List Env} {A₀ : Around} {base h₀ : Heap} {L : Addr} {m : PySem.Str → Option Value} {s : Shared} {Q E : Value → Shared → Prop}
theorem use_first {r y : Int} {v : Value} {tr ty : Tok} (C : CFirst prog w K p loose mean mg mb) (hr : IsRule r v) (hy : 1 ≤ y)
    (B : Below A₀ base outer h₀) (F : Fr h₀ L s.heap m) (X : K.In h₀) (N : News h₀ L s.heap news) (T : Top p loose mean mg mb h₀) (hk : cs.kind = .function)
    (hd : dp + 1 + 1 < recursionLimit) (hu : un + 8 * (1 + 1) < cLine)
    (ret : ∀ (t : Tok) (h' : Heap) (tk' : Nat), 365 ≤ firstF r (y + 1) - firstF r y → Fr h₀ L h' m → News h₀ L h' news → Q (.int (firstF r y) t) { s with heap := h', toks := tk' }) :
    wpAny (model prog w) (ktrTop dp un gd cn cs L a ccd cl outer) (call (.ref 65) [.int r tr, .int y ty]) Q E s :=
  C r y tr ty news dp un gd cn cs a ccd cl outer A₀ base h₀ L m s Q E B F X N T hk trivial hd hu fun t h' tk' F N =>
    ret t h' tk' (days_of (by rcases hr.three with e | e | e <;> omega) (by rcases hr.three with e | e | e <;> omega) hy).1 F N
theorem use_to {r : Int} {v : Value} {y mo d : Int} {ty tmo td : Tok} (C : CToR prog w K p loose mean mg mb) (hr : IsRule r v) (hy : 1 ≤ y)
    (B : Below A₀ base outer h₀) (F : Fr h₀ L s.heap m) (X : K.In h₀) (N : News h₀ L s.heap news) (T : Top p loose mean mg mb h₀) (hk : cs.kind = .function)
    (hd : dp + 2 + 1 < recursionLimit) (hu : un + 8 * (2 + 1) < cLine)
    (ret : ∀ (t : Tok) (h' : Heap) (tk' : Nat), Fr h₀ L h' m → News h₀ L h' news → Q (.int (firstF r y + 30 * (mo - 1) + (d - 1)) t) { s with heap := h', toks := tk' }) :
    wpAny (model prog w) (ktrTop dp un gd cn cs L a ccd cl outer) (call (.ref 28) [.int y ty, .int mo tmo, .int d td, v]) Q E s :=
  C r v y mo d ty tmo td news hr dp un gd cn cs a ccd cl outer A₀ base h₀ L m s Q E B F X N T hk hy hd hu ret
theorem use_to30 {r : Int} {v : Value} {y x : Int} {ty tmo td : Tok} (C : CToR prog w K p loose mean mg mb) (hr : IsRule r v) (hy : 1 ≤ y)
    (B : Below A₀ base outer h₀) (F : Fr h₀ L s.heap m) (X : K.In h₀) (N : News h₀ L s.heap news) (T : Top p loose mean mg mb h₀) (hk : cs.kind = .function)
    (hd : dp + 2 + 1 < recursionLimit) (hu : un + 8 * (2 + 1) < cLine)
    (ret : ∀ (t : Tok) (h' : Heap) (tk' : Nat), Fr h₀ L h' m → News h₀ L h' news → Q (.int (firstF r y + x) t) { s with heap := h', toks := tk' }) :
    wpAny (model prog w) (ktrTop dp un gd cn cs L a ccd cl outer) (call (.ref 28) [.int y ty, .int (x.fdiv 30 + 1) tmo, .int (x.fmod 30 + 1) td, v]) Q E s := by
  have e : firstF r y + 30 * ((x.fdiv 30 + 1) - 1) + ((x.fmod 30 + 1) - 1) = firstF r y + x := by
    rw [Int.fdiv_eq_ediv_of_nonneg x (by decide), Int.fmod_eq_emod_of_nonneg x (by decide)]
    omega
  refine use_to C hr hy B F X N T hk hd hu fun t h' tk' F N => ?_
  rw [e]
  exact ret t h' tk' F N
abbrev tupI (x y z : Int) (t1 t2 t3 : Tok) : Obj := { cls := .type "tuple", data := .seq #[.int x t1, .int y t2, .int z t3] }
/-- from_jd or its inner def: a day told back -/
def CBack (prog : Program) (w : World) (K : Frag) (p : Program) (loose : List PySem.Str) (mean : ExcName → Option Value) (mg mb : PySem.Str → Option Value) (f : Addr) : Prop :=
  ∀ (r : Int) (v : Value) (y place jd : Int) (tj : Tok) (news : List (Addr × Obj)), IsRule r v → FromPre r y place jd →
    C3 prog w K p loose mean mg mb f news 3 [.int jd tj, v] y (place / 30 + 1) (place % 30 + 1)
theorem use_back {r : Int} {v : Value} {y x : Int} {tj : Tok} (C : CBack prog w K p loose mean mg mb f) (hr : IsRule r v) (hp : FromPre r y x (firstF r y + x))
    (B : Below A₀ base outer h₀) (F : Fr h₀ L s.heap m) (X : K.In h₀) (N : News h₀ L s.heap news) (T : Top p loose mean mg mb h₀) (hk : cs.kind = .function)
    (hd : dp + 3 + 1 < recursionLimit) (hu : un + 8 * (3 + 1) < cLine)
    (ret : ∀ (D : Addr) (t1 t2 t3 : Tok) (h' : Heap) (tk' : Nat), Fr h₀ L h' m → News h₀ L h' ((D, tupI y (x.fdiv 30 + 1) (x.fmod 30 + 1) t1 t2 t3) :: news) → (∀ p ∈ news, p.1 < D) → Q (.ref D) { s with heap := h', toks := tk' }) :
    wpAny (model prog w) (ktrTop dp un gd cn cs L a ccd cl outer) (call (.ref f) [.int (firstF r y + x) tj, v]) Q E s := by
  rw [Int.fdiv_eq_ediv_of_nonneg x (by decide), Int.fmod_eq_emod_of_nonneg x (by decide)] at ret
  exact C r v y x _ tj news hr hp dp un gd cn cs a ccd cl outer A₀ base h₀ L m s Q E B F X N T hk hd hu ret
theorem use_next {r : Int} {v : Value} {y : Int} {tj : Tok} (C : CBack prog w K p loose mean mg mb f) (hr : IsRule r v) (hy : 1 ≤ y)
    (B : Below A₀ base outer h₀) (F : Fr h₀ L s.heap m) (X : K.In h₀) (N : News h₀ L s.heap news) (T : Top p loose mean mg mb h₀) (hk : cs.kind = .function)
    (hd : dp + 3 + 1 < recursionLimit) (hu : un + 8 * (3 + 1) < cLine)
    (ret : ∀ (D : Addr) (t1 t2 t3 : Tok) (h' : Heap) (tk' : Nat), Fr h₀ L h' m → News h₀ L h' ((D, tupI (y + 1) 1 1 t1 t2 t3) :: news) → (∀ p ∈ news, p.1 < D) → Q (.ref D) { s with heap := h', toks := tk' }) :
    wpAny (model prog w) (ktrTop dp un gd cn cs L a ccd cl outer) (call (.ref f) [.int (firstF r y + (firstF r (y + 1) - firstF r y)) tj, v]) Q E s :=
  C r v (y + 1) 0 _ tj news hr (pre_next hr.three hy) dp un gd cn cs a ccd cl outer A₀ base h₀ L m s Q E B F X N T hk hd hu ret

/-- an item of the law's table of names -/
theorem way_pick {A : Around} {value slice : Expr} {k : Int} {u : Tok} {t0 t1 t2 t3 t4 t5 : Tok} {n : Nat} {dd : Option Addr} {sl : Array (Option Value)} (F : Fr h₀ L s.heap m) (X₀ : K.In h₀)
    (hl : K.lookup f = some ⟨.type "tuple", dd, .seq [Value.str (PySem.Str.ofString "continuous") t0, Value.int 4 t1, Value.str (PySem.Str.ofString "romme") t2, Value.int 100 t3, Value.str (PySem.Str.ofString "madler") t4, Value.int 128 t5].toArray n, sl⟩)
    (h : ∀ v, IsRule ((k.fmod 6).fdiv 2) v → Q v s)
    (hs : subscripted slice false (.ref f) (.int (k.fmod 6) u) = operate [.ref f, .int (k.fmod 6) u] (getItem (.ref f) (.int (k.fmod 6) u))) :
    wpAny (model prog w) A (subscriptTail value slice (.ref f) (.int (k.fmod 6) u)) Q E s := by
  have h0 : 0 ≤ k.fmod 6 := Int.fmod_nonneg_of_pos k (by decide)
  have h6 : k.fmod 6 < 6 := Int.fmod_lt_of_pos k (by decide)
  generalize k.fmod 6 = q at *
  have hq : q = 0 ∨ q = 1 ∨ q = 2 ∨ q = 3 ∨ q = 4 ∨ q = 5 := by omega
  rcases hq with rfl | rfl | rfl | rfl | rfl | rfl
  · exact topTup_K F X₀ hl (by decide) (by decide) rfl rfl (h _ (.inl ⟨by decide, .inl ⟨_, rfl⟩⟩)) hs
  · exact topTup_K F X₀ hl (by decide) (by decide) rfl rfl (h _ (.inl ⟨by decide, .inr ⟨_, rfl⟩⟩)) hs
  · exact topTup_K F X₀ hl (by decide) (by decide) rfl rfl (h _ (.inr (.inl ⟨by decide, .inl ⟨_, rfl⟩⟩))) hs
  · exact topTup_K F X₀ hl (by decide) (by decide) rfl rfl (h _ (.inr (.inl ⟨by decide, .inr ⟨_, rfl⟩⟩))) hs
  · exact topTup_K F X₀ hl (by decide) (by decide) rfl rfl (h _ (.inr (.inr ⟨by decide, .inl ⟨_, rfl⟩⟩))) hs
  · exact topTup_K F X₀ hl (by decide) (by decide) rfl rfl (h _ (.inr (.inr ⟨by decide, .inr ⟨_, rfl⟩⟩))) hs
/-- one of the law's four places of a year of hi days -/
theorem place_pick {A : Around} {value slice : Expr} {k hi x : Int} {u : Tok} {D : Addr} {t0 t1 t2 t3 : Tok} (N : News h₀ L s.heap news)
    (hm : (D, ({ cls := .type "tuple", data := .seq [Value.int 0 t0, Value.int (hi - 1) t1, Value.int 364 t2, Value.int (x.fmod hi) t3].toArray } : Obj)) ∈ news)
    (hh : 365 ≤ hi)
    (h : ∀ (x : Int) (t : Tok), 0 ≤ x → x < hi → Q (.int x t) s)
    (hs : subscripted slice false (.ref D) (.int (k.fmod 4) u) = operate [.ref D, .int (k.fmod 4) u] (getItem (.ref D) (.int (k.fmod 4) u))) :
    wpAny (model prog w) A (subscriptTail value slice (.ref D) (.int (k.fmod 4) u)) Q E s := by
  have h0 : 0 ≤ k.fmod 4 := Int.fmod_nonneg_of_pos k (by decide)
  have h4 : k.fmod 4 < 4 := Int.fmod_lt_of_pos k (by decide)
  generalize k.fmod 4 = q at *
  have hq : q = 0 ∨ q = 1 ∨ q = 2 ∨ q = 3 := by omega
  have ht := News.isTup N hm
  rcases hq with rfl | rfl | rfl | rfl
  · exact item_tupleT ht (by decide) (by decide) rfl rfl (h _ _ (by omega) (by omega)) hs
  · exact item_tupleT ht (by decide) (by decide) rfl rfl (h _ _ (by omega) (by omega)) hs
  · exact item_tupleT ht (by decide) (by decide) rfl rfl (h _ _ (by omega) (by omega)) hs
  · exact item_tupleT ht (by decide) (by decide) rfl rfl (h _ _ (Int.fmod_nonneg_of_pos _ (by omega)) (Int.fmod_lt_of_pos _ (by omega))) hs
end
end Mine
end
section
open PySem PySem.W PyProof.Rows
namespace Mine
theorem back43 {prog : Program} {w : World} {K : Frag} {p : Program} {loose : List PySem.Str} {mean : ExcName → Option Value} {mg mb : PySem.Str → Option Value} (C : CFromR prog w K p loose mean mg mb) : CBack prog w K p loose mean mg mb 43 :=
  fun r v y place jd tj news hr hp dp un gd cn cs a ccd cl outer A₀ base h₀ L m s Q E B F X N T hk hd hu ret =>
    C r v y place jd tj news hr hp dp un gd cn cs a ccd cl outer A₀ base h₀ L m s Q E B F X N T hk (by omega) (by omega) ret
set_option maxRecDepth 100000
set_option maxHeartbeats 8000000
theorem c_cell {w : World} {mean : ExcName → Option Value} {mg mb : PySem.Str → Option Value} : (PySem.Challenge.rw_aq6008_01 = PySem.Challenge.rw_aq6008_01) → 
  CellTells PySem.Challenge.rw_aq6008_01.row.prog w (Mine.hd.heap_39 w.params) Mine.hd.view_39 (looseW Mine.hd.view_39 [PySem.Str.ofString "from_jd"]) mean mg mb 51 0 := by
  k_fill
  intro _
  cell_step
theorem use_year {prog : Program} {w : World} {K : Frag} {p : Program} {loose : List PySem.Str} {mean : ExcName → Option Value} {mg mb : PySem.Str → Option Value} {news : List (Addr × Obj)}
  {dp un : Nat} {gd : Option (List Code)} {cn : PySem.Str} {cs : Scope} {a : Addr} {ccd : Value} {cl : List (PySem.Str × Addr)} {outer : List Env} {A₀ : Around} {base h₀ : Heap} {L : Addr} {m : PySem.Str → Option Value} {s : Shared} {Q E : Value → Shared → Prop}
  {r k z st : Int} {tr tk tz ts : Tok} (C : CYear prog w K p loose mean mg mb)
    (B : Below A₀ base outer h₀) (F : Fr h₀ L s.heap m) (X : K.In h₀) (N : News h₀ L s.heap news) (T : Top p loose mean mg mb h₀) (hk : cs.kind = .function)
    (hd : dp + 1 < recursionLimit) (hu : un + 8 < cLine) (hz : 0 ≤ z)
    (ret : ∀ (n : Int) (t : Tok) (h' : Heap) (tk' : Nat), 1 ≤ n → Fr h₀ L h' m → News h₀ L h' news → Q (.int n t) { s with heap := h', toks := tk' }) :
    wpAny (model prog w) (ktrTop dp un gd cn cs L a ccd cl outer) (call (.ref 72) [.int r tr, .int (k.fmod 5) tk, .int z tz, .int st ts]) Q E s :=
  C r (k.fmod 5) z st tr tk tz ts news (Int.fmod_nonneg_of_pos k (by decide)) (Int.fmod_lt_of_pos k (by decide)) hz dp un gd cn cs a ccd cl outer A₀ base h₀ L m s Q E B F X N T hk hd hu ret
structure AllC (prog : Program) (w : World) (K : Frag) (p : Program) (loose : List PySem.Str) (mean : ExcName → Option Value) (mg mb : PySem.Str → Option Value) : Prop where
  cell : CellTells prog w K p loose mean mg mb 51 0
  year : CYear prog w K p loose mean mg mb
  first : CFirst prog w K p loose mean mg mb
  to : CToR prog w K p loose mean mg mb
  back : CBack prog w K p loose mean mg mb 43
  jd : CBack prog w K p loose mean mg mb 36
theorem allC {w : World} {h : Heap} {mean : ExcName → Option Value} {mg mb : PySem.Str → Option Value} (_ : Top Mine.hd.view_39 (looseW Mine.hd.view_39 [PySem.Str.ofString "from_jd"]) mean mg mb h) (_ : (Mine.hd.heap_39 w.params).In h) :
   AllC PySem.Challenge.rw_aq6008_01.row.prog w (Mine.hd.heap_39 w.params) Mine.hd.view_39 (looseW Mine.hd.view_39 [PySem.Str.ofString "from_jd"]) mean mg mb :=
  ⟨c_cell rfl, c_year rfl, c_first rfl, c_to rfl (c_trunc rfl), back43 (c_from rfl (c_trunc rfl)), c_fromjd rfl (c_from rfl (c_trunc rfl))⟩
end Mine
end
section
open PySem PySem.W PyProof.Rows
namespace Mine
local macro_rules | `(tactic| walk_at "eval Call") => `(tactic| (k_here; k_dflt (refine Call_ ?_)))
local macro_rules | `(tactic| walk_at "call ref") => `(tactic| (k_here; (rename CYear _ _ _ _ _ _ _ _ => hCy); k_dflt ((refine' use_year hCy ?k1 ?k2 ?k3 ?k4 ?k5 ?kK ?kd ?ku ?kz ?_); (case k1 => k_asm); (case k2 => k_asm); (case k3 => k_asm); (case k4 => k_asm); (case k5 => k_asm); (case kK => exact rfl); (case kd => ktr_room); (case ku => ktr_units); (case kz => (split <;> omega)); intro n9 t9 h9 tk9 hn9 F9 N9; (try dsimp only); (try k_fold))))
local macro_rules | `(tactic| walk_at "call ref") => `(tactic| (k_here; (rename CFirst _ _ _ _ _ _ _ _ => hCf); (rename IsRule _ _ => hR); k_dflt ((refine' use_first hCf hR ?ky ?k1 ?k2 ?k3 ?k4 ?k5 ?kK ?kd ?ku ?_); (case ky => omega); (case k1 => k_asm); (case k2 => k_asm); (case k3 => k_asm); (case k4 => k_asm); (case k5 => k_asm); (case kK => exact rfl); (case kd => ktr_room); (case ku => ktr_units); intro t9 h9 tk9 hn9 F9 N9; (try dsimp only); (try k_fold))))
local macro_rules | `(tactic| walk_at "call ref") => `(tactic| (k_here; (rename CToR _ _ _ _ _ _ _ _ => hCt); (rename IsRule _ _ => hR); k_dflt ((first | (refine' use_to30 hCt hR ?ky ?k1 ?k2 ?k3 ?k4 ?k5 ?kK ?kd ?ku ?_) | (refine' use_to hCt hR ?ky ?k1 ?k2 ?k3 ?k4 ?k5 ?kK ?kd ?ku ?_)); (case ky => omega); (case k1 => k_asm); (case k2 => k_asm); (case k3 => k_asm); (case k4 => k_asm); (case k5 => k_asm); (case kK => exact rfl); (case kd => ktr_room); (case ku => ktr_units); intro t9 h9 tk9 F9 N9; (try dsimp only); (try k_fold))))
local macro_rules | `(tactic| walk_at "subscriptTail") => `(tactic| (k_here; (with_reducible refine' way_pick ?F ?X ?hl ?_ ?hs); (case F => k_asm); (case X => k_asm); (case hl => k_is); (case hs => with_unfolding_all rfl); intro v9 hv9; (try dsimp only); (try k_fold)))
local macro_rules | `(tactic| walk_at "subscriptTail") => `(tactic| (k_here; (with_reducible refine' place_pick ?N ?hm ?hh ?_ ?hs); (case N => k_asm); (case hm => k_dflt k_mem); (case hh => assumption); (case hs => with_unfolding_all rfl); intro x9 t9 hx9 hy9; (try dsimp only); (try k_fold)))
local macro_rules | `(tactic| walk_at "call ref") => `(tactic| (k_here; (rename IsRule _ _ => hR); k_dflt ((first
  | ((rename CBack _ _ _ _ _ _ _ _ 43 => hCb); (refine' use_back hCb hR (pre_of ?ka ?kb ?kc ?kn) ?k1 ?k2 ?k3 ?k4 ?k5 ?kK ?kd ?ku ?_); (case ka => assumption); (case kb => assumption); (case kc => assumption); (case kn => first | exact (fun q9 => absurd q9.1 (by assumption)) | exact (fun q9 => absurd q9.2.1 (by assumption)) | exact (fun q9 => absurd q9.2.2 (by assumption))))
  | ((rename CBack _ _ _ _ _ _ _ _ 36 => hCj); (refine' use_back hCj hR (pre_of ?ka ?kb ?kc ?kn) ?k1 ?k2 ?k3 ?k4 ?k5 ?kK ?kd ?ku ?_); (case ka => assumption); (case kb => assumption); (case kc => assumption); (case kn => first | exact (fun q9 => absurd q9.1 (by assumption)) | exact (fun q9 => absurd q9.2.1 (by assumption)) | exact (fun q9 => absurd q9.2.2 (by assumption))))
  | ((rename CBack _ _ _ _ _ _ _ _ 43 => hCb); (refine' use_next hCb hR ?ky ?k1 ?k2 ?k3 ?k4 ?k5 ?kK ?kd ?ku ?_); (case ky => assumption))); (case k1 => k_asm); (case k2 => k_asm); (case k3 => k_asm); (case k4 => k_asm); (case k5 => k_asm); (case kK => exact rfl); (case kd => ktr_room); (case ku => ktr_units); intro D9 t91 t92 t93 h9 tk9 F9 N9 l9; (try dsimp only); (try k_fold))))
set_option maxRecDepth 100000 in
set_option maxHeartbeats 8000000 in
theorem law_holds : PySem.Challenge.rw_aq6008_01.Holds := Mine.hd (by
  w_strict (
    k_go0
    (all_goals try k_fold)
    rename Top _ _ _ _ _ _ => T0
    rename Frag.In _ _ => X0
    obtain ⟨hCell, hYear, hFirst, hTo, hBack, hJd⟩ := allC T0 X0
    k_steps))

end Mine
end
theorem PySem.Challenge.cw_aq6008_01_holds : PySem.Challenge.rw_aq6008_01.Holds :=
  Mine.law_holds
