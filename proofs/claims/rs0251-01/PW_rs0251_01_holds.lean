import PyProof.Rows.All
import Wide.All
import OpenK.AllK
import Wide.FinOn
import PySem.Challenge.RW_rs0251_01
open PySem PySem.W PyProof.Rows
set_option Elab.async false
set_option maxRecDepth 100000
set_option maxHeartbeats 8000000
namespace Mine
section
open PySem PySem.W PyProof.Rows
open_top hd for PySem.Challenge.rw_rs0251_01

theorem ofString_inj {a b : String} : (Str.ofString a = Str.ofString b) ↔ a = b := by
  constructor
  · intro h
    rw [Str.ofString_eq_toList, Str.ofString_eq_toList] at h
    have h1 := congrArg (fun x : Str => x.cps.toList) h
    simp only [] at h1
    have h2 : a.toList = b.toList := by
      have inj : ∀ l1 l2 : List Char, l1.map Char.toNat = l2.map Char.toNat → l1 = l2 := by
        intro l1
        induction l1 with
        | nil => intro l2 h; cases l2 with | nil => rfl | cons _ _ => cases h
        | cons c r ih =>
          intro l2 h
          cases l2 with
          | nil => cases h
          | cons d r2 =>
            simp only [List.map_cons, List.cons.injEq] at h
            rw [Char.toNat_inj.mp h.1, ih r2 h.2]
      exact inj _ _ h1
    exact String.toList_inj.mp h2
  · rintro rfl; rfl

/-- all of h stands in h' -/
def Ex (h h' : Heap) : Prop := ∀ b o, h.get? b = some o → h'.get? b = some o
theorem Ex.refl (h : Heap) : Ex h h := fun _ _ e => e
theorem Ex.trans {a b c : Heap} (x : Ex a b) (y : Ex b c) : Ex a c := fun p o e => y p o (x p o e)
theorem Ex.push (h : Heap) (o : Obj) : Ex h (h.push o) := fun _ _ e => Heap.get?_push_of_some _ e
/-- all but the addresses of W -/
def ExB (W : Addr → Prop) (h h' : Heap) : Prop := ∀ b o, ¬ W b → h.get? b = some o → h'.get? b = some o
theorem ExB.refl (W : Addr → Prop) (h : Heap) : ExB W h h := fun _ _ _ e => e
theorem ExB.trans {W : Addr → Prop} {a b c : Heap} (x : ExB W a b) (y : ExB W b c) : ExB W a c := fun p o n e => y p o n (x p o n e)
theorem Ex.but {h h' : Heap} (x : Ex h h') (W : Addr → Prop) : ExB W h h' := fun b o _ e => x b o e
theorem ExB.mono {W W' : Addr → Prop} {h h' : Heap} (x : ExB W h h') (i : ∀ b, W b → W' b) : ExB W' h h' := fun b o n e => x b o (fun q => n (i b q)) e

noncomputable abbrev KK (w : World) : Frag := hd.heap_39 w.params
def fdAt (K : Frag) (f : Addr) : FuncData := match K.lookup f with
  | some ⟨_, _, .func fd, _⟩ => fd
  | _ => default
def bodyAt (K : Frag) (f : Addr) : List Stmt := match (fdAt K f).body with
  | .stmts b => b
  | _ => []

def obAt (K : Frag) (f : Addr) : Obj := (K.lookup f).getD default
/-- what stands still below the whole call -/
structure Gd (w : World) (mg mb : Str → Option Value) (g : Heap) : Prop where
  X : (KK w).In g
  T : ∃ p loose mean, Top p loose mean mg mb g

structure Room (A : Around) (d u : Nat) : Prop where
  hh : A.handled = none
  dp : A.depth + d < recursionLimit
  un : A.units + u < cLine
theorem Room.le {A : Around} {d u d' u' : Nat} (r : Room A d u) (hd : d' ≤ d) (hu : u' ≤ u) : Room A d' u' := ⟨r.hh, by have := r.dp; omega, by have := r.un; omega⟩
theorem Room.deeper {A : Around} {d u : Nat} {env : Env} (r : Room A (d + 1) (u + 3)) : Room (A.deeper env) d u := ⟨r.hh, by have := r.dp; show A.depth + 1 + d < _; omega, by have := r.un; show A.units + 3 + u < _; omega⟩

/-- the state, over a fixed one: the heap and the count of marks alone are free -/
abbrev St (b : Shared) (h : Heap) (t : Nat) : Shared := { b with heap := h, toks := t }
section
variable {prog : Program} {w : World} {A : Around} {E : Value → Shared → Prop} {s : Shared} {mg mb : Str → Option Value} {g : Heap}

theorem call_K {b : Shared} {hp : Heap} {t : Nat} {f : Addr} {args : List Value} (binds : List (Str × Value)) {Q : Value → Shared → Prop}
    (G : Gd w mg mb g) (k : Ex g hp) (hl : (KK w).lookup f = some (obAt (KK w) f)) (hd : (obAt (KK w) f).data = .func (fdAt (KK w) f)) (hcd : codeIn (KK w) (fdAt (KK w) f).code (fdAt (KK w) f).qualname = true) (hroom : A.depth < recursionLimit)
    (hbody : (fdAt (KK w) f).body = .stmts (bodyAt (KK w) f)) (hbind : bindArgs (fdAt (KK w) f) ⟨args, []⟩ = pure binds) (hcell : ((fdAt (KK w) f).scope.names.all fun x => decide (x.2 ≠ .cell)) = true) (hloc : (binds.all fun x => decide ((fdAt (KK w) f).scope.names.lookup x.1 = some .local)) = true)
    (hco : (fdAt (KK w) f).scope.isCoroutine = false) (hgen : (fdAt (KK w) f).scope.isGenerator = false) (hk : (fdAt (KK w) f).scope.kind = .function)
    (h : ∀ h₀, h₀.Ns hp.objs.size (fun x => binds.reverse.lookup x) → Ex hp h₀ →
      wpAny (model prog w) (A.deeper (callEnv (fdAt (KK w) f) hp.objs.size f)) (execs (bodyAt (KK w) f) (callEnv (fdAt (KK w) f) hp.objs.size f)) (fun fl s' => Q (match fl with | .ret v => v | _ => .none) s') (fun _ _ => False)
        (St b h₀ (t + binds.length))) :
    wpAny (model prog w) A (call (.ref f) args) Q E (St b hp t) := by
  obtain ⟨p, loose, mean, T⟩ := G.T
  refine wpAny_call (codeAny_call_def hroom (k _ _ (G.X _ _ hl)) hd (T.nolimit.keeps k) (codeRec_of (G.X.keeps k) hcd) hbody (BindsTo.of_eq hbind) (fun x hx => of_decide_eq_true (List.all_eq_true.mp hcell x hx)) (locs hloc) (fun h₀ hn hk₀ => ?_) hco hgen hk)
  exact wpAny_mono (h h₀ hn hk₀) (fun _ _ x => x) fun _ _ x => x.elim
end
theorem ExB.fresh {W : Addr → Prop} {h h' : Heap} (x : ExB W h h') (n : ∀ b, W b → h.get? b = none) : Ex h h' := fun b o e => x b o (fun q => by rw [n b q] at e; cases e) e
theorem get_size (h : Heap) : h.get? h.objs.size = none := Heap.get?_none_of_le (Nat.le_refl _)
end
end Mine

namespace Mine
section
open PySem PySem.W PyProof.Rows
section
variable {prog : Program} {w : World} {A : Around} {E : Value → Shared → Prop} {mg mb : Str → Option Value} {g : Heap} {env : Env} {b : Shared} {h : Heap} {t : Nat}

theorem nmL {x : Str} {pos : Pos} {m : Str → Option Value} {v : Value} {Q : Value → Shared → Prop} (hn : h.Ns env.locals m) (hv : m x = some v) (q : Q v (St b h t))
    (hk : env.scope.kind = .function := by rfl) (hx : env.kindOf x = some .local := by with_unfolding_all rfl) (hd : (x == ("__debug__" : Str)) = false := by decide +kernel) :
    wpAny (model prog w) A (eval (.Name x pos) env) Q E (St b h t) := wpAny_Name (wpAny_loadName_local hk hx hn hv q) hd

theorem stL {x : Str} {m : Str → Option Value} {v : Value} {Q : Unit → Shared → Prop} (hn : h.Ns env.locals m)
    (q : ∀ h', h'.Ns env.locals (fun y => if y = x then some v else m y) → ExB (· = env.locals) h h' → Q () (St b h' (t + 1)))
    (hk : env.scope.kind = .function := by rfl) (hx : env.kindOf x = some .local := by with_unfolding_all rfl) :
    wpAny (model prog w) A (storeName env x v) Q E (St b h t) :=
  wpAny_storeName_local hx hn (fun h' hn' hs => q h' hn' fun b o nb e => hs.extBut b o nb e) (by rw [hk]; rfl)

theorem asgL {x : Str} {px pos : Pos} {value : Expr} {Q : Flow → Shared → Prop}
    (q : wpAny (model prog w) A (eval value env) (fun v s₁ => ∃ h₁ t₁ m, s₁ = St b h₁ t₁ ∧ h₁.Ns env.locals m ∧ ∀ h', h'.Ns env.locals (fun y => if y = x then some v else m y) → ExB (· = env.locals) h₁ h' → Q .next (St b h' (t₁ + 1))) E (St b h t))
    (hs : swapsWith value (some (.Name x px)) pos.line env = pure false := by rfl)
    (hk : env.scope.kind = .function := by rfl) (hx : env.kindOf x = some .local := by with_unfolding_all rfl) :
    wpAny (model prog w) A (exec (.Assign [.Name x px] value pos) env) Q E (St b h t) :=
  wpAny_Assign_Name (wpAny_mono q (fun _ _ ⟨_, _, _, e, hn, q'⟩ => e ▸ stL hn q' hk hx) fun _ _ x => x) hs

theorem cInt {i : Int} {k : Nat} {pos : Pos} {Q : Value → Shared → Prop} (q : Q (.int i t) (St b h (t + 1))) : wpAny (model prog w) A (eval (.Constant (.int i) k pos) env) Q E (St b h t) := wpAny_Constant_int q
theorem cStr {x : Str} {k : Nat} {pos : Pos} {Q : Value → Shared → Prop} (q : Q (.str x t) (St b h (t + 1))) : wpAny (model prog w) A (eval (.Constant (.str x) k pos) env) Q E (St b h t) := wpAny_Constant_str q
theorem addI {i j : Int} {u v : Tok} {Q : Value → Shared → Prop} (q : Q (.int (i + j) t) (St b h (t + 1))) : wpAny (model prog w) A (binaryOp .Add (.int i u) (.int j v)) Q E (St b h t) := add_int q
theorem subI {i j : Int} {u v : Tok} {Q : Value → Shared → Prop} (q : Q (.int (i - j) t) (St b h (t + 1))) : wpAny (model prog w) A (binaryOp .Sub (.int i u) (.int j v)) Q E (St b h t) := sub_int q
theorem mulI {i j : Int} {u v : Tok} {Q : Value → Shared → Prop} (hm : IntMulOk i j) (q : Q (.int (i * j) t) (St b h (t + 1))) : wpAny (model prog w) A (binaryOp .Mult (.int i u) (.int j v)) Q E (St b h t) := mul_int q hm
theorem divI {i j : Int} {u v : Tok} {Q : Value → Shared → Prop} (h0 : j ≠ 0) (hs : Builtin.divisionGoesByPylong i j = false) (q : Q (.int (i.fdiv j) t) (St b h (t + 1))) : wpAny (model prog w) A (binaryOp .FloorDiv (.int i u) (.int j v)) Q E (St b h t) := floordiv_int h0 q (.inl hs)
theorem modI {i j : Int} {u v : Tok} {Q : Value → Shared → Prop} (h0 : j ≠ 0) (q : Q (.int (i.fmod j) t) (St b h (t + 1))) : wpAny (model prog w) A (binaryOp .Mod (.int i u) (.int j v)) Q E (St b h t) := mod_int' h0 q
theorem mulR {i j : Int} {u v : Tok} {Q : Value → Shared → Prop} (h1 : -1000000 ≤ j) (h2 : j ≤ 1000000) (q : Q (.int (i * j) t) (St b h (t + 1))) : wpAny (model prog w) A (binaryOp .Mult (.int i u) (.int j v)) Q E (St b h t) :=
  mulI (IntMulOk.of_right (intBits_le_64 (by omega) (by omega))) q
theorem divR {i j : Int} {u v : Tok} {Q : Value → Shared → Prop} (h1 : 1 ≤ j) (h2 : j ≤ 1000000) (q : Q (.int (i.fdiv j) t) (St b h (t + 1))) : wpAny (model prog w) A (binaryOp .FloorDiv (.int i u) (.int j v)) Q E (St b h t) :=
  divI (by omega) (PyProof.noPylong_small (by omega)) q
theorem eqS {x y : Str} {u v : Tok} {Q : Value → Shared → Prop} (q : Q (.bool (x == y)) (St b h t)) : wpAny (model prog w) A (compareOp .Eq (.str x u) (.str y v)) Q E (St b h t) := eq_str q
theorem ltI {i j : Int} {u v : Tok} {Q : Value → Shared → Prop} (q : Q (.bool (decide (i < j))) (St b h t)) : wpAny (model prog w) A (compareOp .Lt (.int i u) (.int j v)) Q E (St b h t) := lt_int q
theorem leI {i j : Int} {u v : Tok} {Q : Value → Shared → Prop} (q : Q (.bool (decide (i ≤ j))) (St b h t)) : wpAny (model prog w) A (compareOp .LtE (.int i u) (.int j v)) Q E (St b h t) := le_int q
theorem geI {i j : Int} {u v : Tok} {Q : Value → Shared → Prop} (q : Q (.bool (decide (i ≥ j))) (St b h t)) : wpAny (model prog w) A (compareOp .GtE (.int i u) (.int j v)) Q E (St b h t) := ge_int q
theorem eqI {i j : Int} {u v : Tok} {Q : Value → Shared → Prop} (q : Q (.bool (i == j)) (St b h t)) : wpAny (model prog w) A (compareOp .Eq (.int i u) (.int j v)) Q E (St b h t) := eq_int q
theorem trB {x : Bool} {Q : Bool → Shared → Prop} (q : Q x (St b h t)) : wpAny (model prog w) A (truthy (.bool x)) Q E (St b h t) := wpAny_truthy_bool q

/-- what a turn keeps: all up to the iterator, but M -/
def Kp (M : Addr → Prop) (I : Addr) (h h' : Heap) : Prop := ∀ a o, ¬ M a → a ≤ I → h.get? a = some o → h'.get? a = some o
theorem Kp.refl (M : Addr → Prop) (I : Addr) (h : Heap) : Kp M I h h := fun _ _ _ _ e => e
theorem Kp.trans {M : Addr → Prop} {I : Addr} {a b c : Heap} (x : Kp M I a b) (y : Kp M I b c) : Kp M I a c := fun p o n l e => y p o n l (x p o n l e)
theorem Kp.ofEx {h h' : Heap} (x : Ex h h') (M : Addr → Prop) (I : Addr) : Kp M I h h' := fun a o _ _ e => x a o e
theorem Kp.ofB {h h' : Heap} {W : Addr → Prop} {M : Addr → Prop} {I : Addr} (x : ExB W h h') (i : ∀ a, W a → M a ∨ I < a) : Kp M I h h' := fun a o n l e => x a o (fun q => (i a q).elim n fun z => Nat.lt_irrefl _ (Nat.lt_of_lt_of_le z l)) e

/-- a for over any source that walks: J says what holds ahead of each turn, M what the turns may change of what stood ahead of the loop -/
theorem forG {target : Expr} {fp : List Addr} {n : Nat} {P : Nat → Value → Prop} {S : Nat → Heap → Prop} {body : List Stmt} {R : Result → Shared → Prop} {hI : Heap} (M : Addr → Prop) (J : Nat → Heap → Prop)
    (W : Walks prog w A h.objs.size fp [h.objs.size] n P S) (hfp : ∀ a ∈ fp, a ≤ h.objs.size ∧ ¬ M a) (hlive : ∀ i h', S i h' → ∃ o, h'.get? h.objs.size = some o) (hS : S 0 hI) (hx : Ex h hI) (h0 : J 0 hI)
    (mono : ∀ i h₀ h₁, J i h₀ → ExB (· = h.objs.size) h₀ h₁ → J i h₁)
    (step : ∀ i v h₁ t₁ (E' : Value → Shared → Prop), i < n → P i v → J i h₁ → ExB M h h₁ → (∃ o, h₁.get? h.objs.size = some o) →
      wpAny (model prog w) A (assign target env v) (fun _ s₂ => wpAny (model prog w) A (execs body env) (fun f s₃ => match f with
        | .next | .cont => ∃ h₃ t₃, s₃ = St b h₃ t₃ ∧ Kp M h.objs.size h₁ h₃ ∧ J (i + 1) h₃
        | .brk => R (.ok .next) s₃
        | .ret v => R (.ok (.ret v)) s₃) E' s₂) E' (St b h₁ t₁))
    (done : ∀ h₁ t₁, J n h₁ → ExB M h h₁ → R (.ok .next) (St b h₁ t₁))
    (ht : ∀ v, letOwnedTupleGo target (.ref h.objs.size) v = pure () := by intro _; rfl) :
    codeAny (model prog w) A (.forLoop target (.ref h.objs.size) body [] env) R (St b hI t) := by
  have hne : ∀ {a : Addr} {o : Obj}, h.get? a = some o → a ≠ h.objs.size := fun e => Nat.ne_of_lt (Heap.lt_size e)
  refine codeAny_forLoop (fun k s' => ∃ i h' t', i ≤ n ∧ k = n - i ∧ s' = St b h' t' ∧ S i h' ∧ ExB M h h' ∧ J i h') ?_ n ⟨0, hI, t, Nat.zero_le _, rfl, rfl, hS, hx.but M, h0⟩ ht
  rintro k s' ⟨i, h', t', hi, rfl, rfl, hs, hk', hj⟩
  by_cases hlt : i < n
  · refine W.item i _ _ _ hlt hs fun v h₁ tk₁ hP hSt hk => ?_
    have k1 : ExB (· = h.objs.size) h' h₁ := fun a o nb e => hk a o (fun q => nb (List.mem_singleton.mp q)) e
    have k2 : ExB M h h₁ := fun a o na e => k1 a o (hne e) (hk' a o na e)
    refine wpAny_mono (step i v h₁ tk₁ _ hlt hP (mono i h' h₁ hj k1) k2 (hlive _ _ hSt)) (fun _ s₂ h₂ => wpAny_mono h₂ (fun f s₃ h₃ => ?_) fun _ _ x => x) fun _ _ x => x
    have fin : (∃ h₃ t₃, s₃ = St b h₃ t₃ ∧ Kp M h.objs.size h₁ h₃ ∧ J (i + 1) h₃) → ∃ m, m < n - i ∧ ∃ i h' t', i ≤ n ∧ m = n - i ∧ s₃ = St b h' t' ∧ S i h' ∧ ExB M h h' ∧ J i h' := by
      clear h₃
      rintro ⟨h₃, t₃, rfl, k3, j⟩
      refine ⟨n - (i + 1), by omega, i + 1, h₃, t₃, by omega, rfl, rfl, W.frame _ _ _ hSt fun a ha o e => k3 a o (hfp a ha).2 (hfp a ha).1 e, fun a o na e => k3 a o na (Nat.le_of_lt (Heap.lt_size e)) (k2 a o na e), j⟩
    cases f with
    | next => exact fin h₃
    | cont => exact fin h₃
    | brk => exact h₃
    | ret v => exact h₃
  · obtain rfl : i = n := by omega
    refine W.done _ _ _ hs fun h₁ tk₁ hk => wpAny_execs_nil ?_
    have k1 : ExB (· = h.objs.size) h' h₁ := fun a o nb e => hk a o (fun q => nb (List.mem_singleton.mp q)) e
    exact done h₁ tk₁ (mono _ h' h₁ hj k1) fun a o na e => k1 a o (hne e) (hk' a o na e)

section
variable {target iter : Expr} {body : List Stmt} {pos : Pos} {Q : Flow → Shared → Prop}
/-- over the signs of a text -/
theorem forStr {x : Str} {tk : Tok} (hh : A.handled = none) (ha : x.cps.all (· < 128) = true) (M : Addr → Prop) (J : Nat → Heap → Prop) (hM : ∀ a, M a → a < h.objs.size) (h0 : ∀ h', Ex h h' → J 0 h')
    (mono : ∀ i h₀ h₁, J i h₀ → ExB (· = h.objs.size) h₀ h₁ → J i h₁)
    (step : ∀ i c tk h₁ t₁ (E' : Value → Shared → Prop), x.cps[i]? = some c → J i h₁ → ExB M h h₁ → (∃ o, h₁.get? h.objs.size = some o) →
      wpAny (model prog w) A (assign target env (.str ⟨#[c]⟩ tk)) (fun _ s₂ => wpAny (model prog w) A (execs body env) (fun f s₃ => match f with
        | .next | .cont => ∃ h₃ t₃, s₃ = St b h₃ t₃ ∧ Kp M h.objs.size h₁ h₃ ∧ J (i + 1) h₃
        | .brk => Q .next s₃
        | .ret v => Q (.ret v) s₃) E' s₂) E' (St b h₁ t₁))
    (done : ∀ h₁ t₁, J x.cps.size h₁ → ExB M h h₁ → Q .next (St b h₁ t₁))
    (ht : ∀ v, letOwnedTupleGo target (.ref h.objs.size) v = pure () := by intro _; rfl) :
    wpAny (model prog w) A (pyIter (.str x tk)) (fun it s₂ => codeAny (model prog w) A (.forLoop target it body [] env) (fun r s' => match r with | .ok f => Q f s' | .error e => cameBackBy (model prog w) A env E e s') s₂) E (St b h t) := by
  refine wpAny_pyIter_ascii ha ?_
  refine forG (h := h) (t := t) M J (Walks.strAscii hh h.objs.size x tk) (fun a ha => ?_) (fun i h' ⟨o, e, _⟩ => ⟨o, e⟩) ⟨_, Heap.get?_push_size _ rfl, rfl, rfl⟩ (Ex.push _ _) (h0 _ (Ex.push _ _)) mono ?_ done ht
  · obtain rfl := List.mem_singleton.mp ha
    exact ⟨Nat.le_refl _, fun q => Nat.lt_irrefl _ (hM _ q)⟩
  · rintro i v h₁ t₁ E' _ ⟨c, tk, hc, rfl⟩ hj hk hv
    exact step i c tk h₁ t₁ E' hc hj hk hv
end
theorem asgN {x : Str} {pos : Pos} {m : Str → Option Value} {v : Value} {Q : Unit → Shared → Prop} (hn : h.Ns env.locals m)
    (q : ∀ h', h'.Ns env.locals (fun y => if y = x then some v else m y) → ExB (· = env.locals) h h' → Q () (St b h' (t + 1)))
    (hk : env.scope.kind = .function := by rfl) (hx : env.kindOf x = some .local := by with_unfolding_all rfl) :
    wpAny (model prog w) A (assign (.Name x pos) env v) Q E (St b h t) := wpAny_assign_Name (stL hn q hk hx)
end
def colStep (size c : Int) (ch : Nat) : Int := if ch = 32 then c + 1 else (c.fdiv size + 1) * size
def colF (size : Int) (l : List Nat) : Int := l.foldl (colStep size) 0

section
variable {prog : Program} {w : World} {A : Around} {E : Value → Shared → Prop} {b : Shared} {hp : Heap} {t : Nat} {mg mb : Str → Option Value} {g : Heap}
theorem sign_eq {c d : Nat} {x : String} (e : Str.ofString x = ⟨#[d]⟩) : ((⟨#[c]⟩ : Str) == Str.ofString x) = decide (c = d) := by
  rw [e]
  by_cases h : c = d
  · subst h; simp
  · simp [h]
theorem sgn_space {c : Nat} : ((⟨#[c]⟩ : Str) == Str.ofString " ") = decide (c = 32) := sign_eq (by decide +kernel)
theorem sgn_tab {c : Nat} : ((⟨#[c]⟩ : Str) == Str.ofString "\t") = decide (c = 9) := sign_eq (by decide +kernel)
theorem colF_snoc {size : Int} {l : List Nat} {c : Nat} : colF size (l ++ [c]) = colStep size (colF size l) c := by rw [colF, List.foldl_append]; rfl
theorem take_snoc {l : Array Nat} {i c : Nat} (h : l[i]? = some c) : l.toList.take (i + 1) = l.toList.take i ++ [c] := by
  have h' : l.toList[i]? = some c := by simpa using h
  rw [List.take_add_one, h']; rfl
theorem take_all (l : Array Nat) : l.toList.take l.size = l.toList := by rw [← Array.length_toList]; exact List.take_length
theorem col_spec {Q : Value → Shared → Prop} (G : Gd w mg mb g) (k : Ex g hp) (r : Room A 10 30) {lead : Str} {size : Int} {t1 t2 : Tok} (ha : lead.cps.all (· < 128) = true) (h1 : 1 ≤ size) (h6 : size ≤ 6)
    (q : ∀ h' tk t', Ex hp h' → Q (.int (colF size lead.cps.toList) t') (St b h' tk)) :
    wpAny (model prog w) A (call (.ref 94) [.str lead t1, .int size t2]) Q E (St b hp t) := by
  refine call_K (f := 94) [("lead", .str lead t1), ("size", .int size t2)] G k (by kernel_rfl) (by kernel_rfl) (by kernel_rfl) (by have := r.dp; omega) (by kernel_rfl) (by kernel_rfl) (by kernel_rfl) (by kernel_rfl) (by kernel_rfl) (by kernel_rfl) (by kernel_rfl) fun h₀ hn k₀ => ?_
  generalize hL : hp.objs.size = L at hn ⊢
  have hfr : hp.get? L = none := hL ▸ get_size _
  refine wpAny_execs_cons (asgL (cInt ⟨_, _, _, rfl, hn, fun h₁ hn₁ k₁ => ?_⟩))
  have hLt : L < h₁.objs.size := hn₁.lt
  have kk : ∀ {h' : Heap}, ExB (· = L) h₁ h' → Ex hp h' := fun x => ((k₀.but _).trans (k₁.trans x)).fresh fun b e => e ▸ hfr
  refine wpAny_execs_cons (wpAny_For (nmL hn₁ (by with_unfolding_all rfl) (forStr r.hh ha (· = L)
    (fun i h => ∃ m tk, h.Ns L m ∧ m "size" = some (.int size t2) ∧ m "column" = some (.int (colF size (lead.cps.toList.take i)) tk)) (fun a e => e ▸ hLt)
    (fun h' x => ⟨_, _, hn₁.keeps x, by with_unfolding_all rfl, by with_unfolding_all rfl⟩)
    (fun i h₀ h₁ ⟨m, tk, n1, n2, n3⟩ x => ⟨m, tk, n1.at' fun o e => x _ o (Nat.ne_of_lt hLt) e, n2, n3⟩)
    (fun i c tk h₂ t₂ E' hc ⟨m, tk', n1, n2, n3⟩ k₂ _ => ?_) fun h₂ t₂ ⟨m, tk', n1, n2, n3⟩ k₂ => ?_)))
  · refine asgN n1 fun h₃ n1' k₃ => ?_
    refine wpAny_execs_cons (asgL (wpAny_IfExp (wpAny_isTrue_Compare1 (nmL n1' (if_pos rfl) (cStr (eqS (trB ?_)))))))
    rw [sgn_space]
    by_cases hc' : c = 32
    · rw [decide_eq_true hc']
      simp only [if_true]
      refine wpAny_BinOp (nmL n1' ((if_neg (by rw [ofString_inj]; decide)).trans n3) (cInt (addI ⟨_, _, _, rfl, n1', fun h₄ n4 k₄ => wpAny_execs_nil ⟨_, _, rfl, ?_, ?_⟩⟩)))
      · exact (Kp.ofB k₃ fun a e => .inl e).trans (Kp.ofB k₄ fun a e => .inl e)
      · refine ⟨_, _, n4, (by simp only [ofString_inj]; simpa using n2), (if_pos rfl).trans (congrArg (fun z => some (Value.int z _)) ?_)⟩
        rw [take_snoc hc, colF_snoc, colStep, if_pos hc']
    · rw [decide_eq_false hc']
      simp only [Bool.false_eq_true, if_false]
      refine wpAny_BinOp (wpAny_BinOp (wpAny_BinOp (nmL n1' ((if_neg (by rw [ofString_inj]; decide)).trans n3) (nmL n1' ((if_neg (by rw [ofString_inj]; decide)).trans n2) (divR h1 (by omega) (cInt (addI
        (nmL n1' ((if_neg (by rw [ofString_inj]; decide)).trans n2) (mulR (by omega) (by omega) ⟨_, _, _, rfl, n1', fun h₄ n4 k₄ => wpAny_execs_nil ⟨_, _, rfl, ?_, ?_⟩⟩)))))))))
      · exact (Kp.ofB k₃ fun a e => .inl e).trans (Kp.ofB k₄ fun a e => .inl e)
      · refine ⟨_, _, n4, (by simp only [ofString_inj]; simpa using n2), (if_pos rfl).trans (congrArg (fun z => some (Value.int z _)) ?_)⟩
        rw [take_snoc hc, colF_snoc, colStep, if_neg hc']
  · refine wpAny_execs_cons (wpAny_Return_some (nmL n1 n3 ?_))
    rw [take_all]
    exact q _ _ _ (kk k₂)
end
end
end Mine

namespace Mine
section
open PySem PySem.W PyProof.Rows PySem.SeqAt
theorem look_Ns {h : Heap} {a : Addr} {m : Str → Option Value} (x : h.Ns a m) : ∃ o, h.get? a = some o ∧ ∀ name, lookIn name o = some (m name) := by
  obtain ⟨o, es, ep, ho, hd, hk, hf⟩ := x
  refine ⟨o, ho, fun name => ?_⟩
  have hf' := hf name
  unfold nsFind findBy at hf'
  rw [← Array.find?_toList] at hf'
  unfold lookIn
  rw [hd]
  dsimp only
  rw [← hf']
  have hno : es.toList.any (·.refKey) = false := by
    rw [List.any_eq_false]
    intro e he
    obtain ⟨n, t, ek⟩ := hk e (Array.mem_toList_iff.mp he)
    obtain ⟨eh, ek', ev⟩ := e
    cases ek
    exact fun c => by cases c
  cases q : es.toList.find? (fun e => e.key.isStr name) with
  | some e => rfl
  | none => rw [hno]; rfl

abbrev wsObj (dx : Addr) : Obj := instObj 83 dx

section
variable {prog : Program} {w : World} {A : Around} {E : Value → Shared → Prop} {mg mb : Str → Option Value} {g : Heap} {env : Env} {b : Shared} {h : Heap} {t : Nat}

theorem nmB {x : Str} {pos : Pos} {v : Value} {Q : Value → Shared → Prop} (G : Gd w mg mb g) (k : Ex g h) (q : Q v (St b h t))
    (e : nsIn (KK w) mainGlobals x = some none := by kernel_rfl) (hv : bootBuiltins x = some v := by boot_fast) (hn : x ≠ "__name__" := by decide +kernel)
    (hg : env.globals = mainGlobals := by rfl) (hb : env.builtins = builtinsNs := by rfl)
    (hk : env.scope.kind = .function := by rfl) (hx : env.kindOf x = some .globalImplicit := by with_unfolding_all rfl) (hd : (x == ("__debug__" : Str)) = false := by decide +kernel) :
    wpAny (model prog w) A (eval (.Name x pos) env) Q E (St b h t) := by
  obtain ⟨p, loose, mean, T⟩ := G.T
  exact Calls.Name_function_global hk hx (Calls.loadGlobal_builtin (by rw [hg]; exact T.g.keeps k) (mg_none_of G.X T.g e) (by rw [hb]; exact T.b.keeps k) ((T.builtins x hn).trans hv) q) hd
theorem nmG {x : Str} {pos : Pos} {v : Value} {Q : Value → Shared → Prop} (G : Gd w mg mb g) (k : Ex g h) (q : Q v (St b h t))
    (e : nsIn (KK w) mainGlobals x = some (some v) := by kernel_rfl)
    (hg : env.globals = mainGlobals := by rfl)
    (hk : env.scope.kind = .function := by rfl) (hx : env.kindOf x = some .globalImplicit := by with_unfolding_all rfl) (hd : (x == ("__debug__" : Str)) = false := by decide +kernel) :
    wpAny (model prog w) A (eval (.Name x pos) env) Q E (St b h t) := by
  obtain ⟨p, loose, mean, T⟩ := G.T
  exact Calls.Name_function_global hk hx (Calls.loadGlobal_global (by rw [hg]; exact T.g.keeps k) (mg_of G.X T.g e) q) hd

/-- an attribute of an own object -/
theorem attrN {x dx : Addr} {m : Str → Option Value} {name : Str} {v : Value} {expr : Bool} {Q : Value → Shared → Prop} (G : Gd w mg mb g) (k : Ex g h) (hx : h.get? x = some (wsObj dx)) (hn : h.Ns dx m) (hv : m name = some v) (q : Q v (St b h (t + 1)))
    (ha : findIn (KK w) (.ref 83) name = some none := by kernel_rfl) (hd : handedIn v = true := by rfl) :
    wpAny (model prog w) A (getAttr (.ref x) name expr) Q E (St b h t) := by
  obtain ⟨o, ho, hl⟩ := look_Ns hn
  exact get_value (s := St b h t) (G.X.keeps k) (I := ⟨hx, rfl, rfl, ho⟩) (by kernel_rfl) (findObj_own (attr := none) (by kernel_rfl) ha rfl ((hl name).trans (congrArg some hv))) hd q
/-- a method of an own object -/
theorem methN {x dx f : Addr} {m : Str → Option Value} {name : Str} {pl : Sem Bool} {Q : Value × List Value → Shared → Prop} (G : Gd w mg mb g) (k : Ex g h) (hx : h.get? x = some (wsObj dx)) (hn : h.Ns dx m) (hv : m name = none) (q : Q (.ref f, [.ref x]) (St b h t))
    (hf : findIn (KK w) (.ref 83) name = some (some (.ref f)) := by kernel_rfl) (ht : typeIn (KK w) (.ref f) = some (.type "function") := by kernel_rfl) :
    wpAny (model prog w) A (getMethod (.ref x) name pl) Q E (St b h t) := by
  obtain ⟨o, ho, hl⟩ := look_Ns hn
  exact method_fn (s := St b h t) (G.X.keeps k) (od := some o) (I := ⟨hx, rfl, rfl, ho⟩) (by kernel_rfl) (by kernel_rfl) hf ht (by show (lookIn name o).map _ = _; rw [hl name, hv]; rfl) q

/-- a call of a def or a method that the written part holds, its arguments reckoned -/
theorem cw1 {f : Addr} {first : List Value} {pos : Pos} {e : Expr} {rest : List Expr} {Q : Value → Shared → Prop} {s : Shared} (G : Gd w mg mb g)
    (q : wpAny (model prog w) A (spliced (backTo pos (starEach (e :: rest) env))) (fun vs s₁ => Ex g s₁.heap ∧ wpAny (model prog w) A (call (.ref f) (first ++ vs)) Q E s₁) E s)
    (hk : keepIn (KK w) (.ref f) = true := by kernel_rfl) (he : starEach (e :: rest) env = (false, eval e env) :: starEach rest env := by rfl) (hplain : (backTo pos (starEach rest env)).any (·.1) = false := by rfl) :
    wpAny (model prog w) A (callWith pos (.ref f) first (backTo pos (starEach (e :: rest) env)) []) Q E s :=
  callWith_K (K := KK w) G.X hk (wpAny_mono q (fun _ _ z => ⟨G.X.keeps z.1, z.2⟩) fun _ _ z => z) he hplain
theorem cw0 {f : Addr} {first : List Value} {pos : Pos} {Q : Value → Shared → Prop} (G : Gd w mg mb g) (k : Ex g h)
    (q : wpAny (model prog w) A (call (.ref f) (first ++ [])) Q E (St b h t)) (hk : keepIn (KK w) (.ref f) = true := by kernel_rfl) :
    wpAny (model prog w) A (callWith pos (.ref f) first (backTo pos (starEach [] env)) []) Q E (St b h t) := callWith_K0 (K := KK w) (s := St b h t) (G.X.keeps k) hk q
theorem lenT {a : Addr} {its : Array Value} {Q : Value → Shared → Prop} (ht : h.IsTuple a its) (hz : its.size ≤ 1000000) (q : Q (.int its.size (t + 1)) (St b h (t + 2))) : wpAny (model prog w) A (call (.builtin "len") [.ref a]) Q E (St b h t) :=
  len_tuple ht (by omega) q
theorem max2 {i j : Int} {u v : Tok} {Q : Value → Shared → Prop} (hh : A.handled = none) (q : ∀ h' t' tk, Ex h h' → Q (.int (max i j) t') (St b h' tk)) :
    wpAny (model prog w) A (call (.builtin "max") [.int i u, .int j v]) Q E (St b h t) := by
  refine PySem.max_two_ints hh fun h' tk k => ?_
  by_cases c : j > i
  · rw [if_pos c]; have := q h' v tk k; rwa [show max i j = j by omega] at this
  · rw [if_neg c]; have := q h' u tk k; rwa [show max i j = i by omega] at this
end

section
variable {prog : Program} {w : World} {A : Around} {E : Value → Shared → Prop} {env : Env} {b : Shared} {h : Heap} {t : Nat}
theorem asgT2 {x y : Str} {px py pos : Pos} {k : Nat} {T : Addr} {u v : Value} {m : Str → Option Value} {Q : Unit → Shared → Prop} (hh : A.handled = none) (hT : h.IsTuple T #[u, v]) (hn : h.Ns env.locals m)
    (q : ∀ h' t', h'.Ns env.locals (fun z => if z = y then some v else if z = x then some u else m z) → ExB (· = env.locals) h h' → Q () (St b h' t'))
    (hk : env.scope.kind = .function := by rfl) (hx : env.kindOf x = some .local := by with_unfolding_all rfl) (hy : env.kindOf y = some .local := by with_unfolding_all rfl) :
    wpAny (model prog w) A (assign (.Tuple [.Name x px, .Name y py] k pos) env (.ref T)) Q E (St b h t) := by
  refine wpAny_assign_Tuple hh hT rfl rfl fun h₁ k₁ => ?_
  have n₁ : h₁.Ns env.locals m := hn.extBut k₁ (Nat.ne_of_lt hn.lt)
  show wpAny _ _ (assignInOrder [assign (.Name x px) env, assign (.Name y py) env] [u, v]) _ _ _
  refine wpAny_assignInOrder_more (asgN (h := h₁) n₁ (fun h₂ n₂ k₂ => wpAny_assignInOrder_more (asgN n₂ (fun h₃ n₃ k₃ => wpAny_assignInOrder_none (q h₃ _ n₃ ?_)) hk hy)) hk hx)
  intro a o na e
  exact k₃ a o na (k₂ a o na (k₁ a o (Nat.ne_of_lt (Heap.lt_size e)) e))
/-- over a range by ones -/
theorem forRange {target : Expr} {body : List Stmt} {Q : Flow → Shared → Prop} {r : Addr} {lo hi : Int} {t1 t2 t3 : Tok} {n : Nat} (hh : A.handled = none) (hr : IsRange h r lo hi 1 t1 t2 t3) (hlo : -1000000 ≤ lo) (hlo' : lo ≤ 1000000) (hhi : -1000000 ≤ hi) (hhi' : hi ≤ 1000000) (hn : (n : Int) = if lo < hi then hi - lo else 0)
    (M : Addr → Prop) (J : Nat → Heap → Prop) (hM : ∀ a, M a → a < h.objs.size) (h0 : ∀ h', Ex h h' → J 0 h')
    (mono : ∀ i h₀ h₁, J i h₀ → ExB (· = h.objs.size) h₀ h₁ → J i h₁)
    (step : ∀ i tk h₁ t₁ (E' : Value → Shared → Prop), i < n → J i h₁ → ExB M h h₁ → (∃ o, h₁.get? h.objs.size = some o) →
      wpAny (model prog w) A (assign target env (.int (lo + (i : Int)) tk)) (fun _ s₂ => wpAny (model prog w) A (execs body env) (fun f s₃ => match f with
        | .next | .cont => ∃ h₃ t₃, s₃ = St b h₃ t₃ ∧ Kp M h.objs.size h₁ h₃ ∧ J (i + 1) h₃
        | .brk => Q .next s₃
        | .ret v => Q (.ret v) s₃) E' s₂) E' (St b h₁ t₁))
    (done : ∀ h₁ t₁, J n h₁ → ExB M h h₁ → Q .next (St b h₁ t₁))
    (ht : ∀ v, letOwnedTupleGo target (.ref h.objs.size) v = pure () := by intro _; rfl) :
    wpAny (model prog w) A (pyIter (.ref r)) (fun it s₂ => codeAny (model prog w) A (.forLoop target it body [] env) (fun r s' => match r with | .ok f => Q f s' | .error e => cameBackBy (model prog w) A env E e s') s₂) E (St b h t) := by
  have hsz : Builtin.Range.rangeSize lo hi 1 = (n : Int) := by rw [rangeSize_one, hn]
  refine wpAny_pyIter_range hr (small_one (by omega) (by omega) (by omega) (by omega)) ?_
  refine forG (h := h) (t := t) M J (Walks.range hh h.objs.size lo 1 n) (fun a ha => ?_) (fun i h' e => ⟨_, e⟩) ?_ (Ex.push _ _) (h0 _ (Ex.push _ _)) mono ?_ done ht
  · obtain rfl := List.mem_singleton.mp ha
    exact ⟨Nat.le_refl _, fun q => Nat.lt_irrefl _ (hM _ q)⟩
  · show IsRangeIter _ _ _ _ _
    rw [hsz]; simpa using Heap.get?_push_size _ rfl
  · rintro i v h₁ t₁ E' hi ⟨tk, rfl⟩ hj hk hv
    rw [Int.mul_one]
    exact step i tk h₁ t₁ E' hi hj hk hv
theorem rng2 {i j : Int} {u v : Tok} {Q : Value → Shared → Prop} (q : ∀ r h' t' t1 t2 t3, Ex h h' → IsRange h' r i j 1 t1 t2 t3 → Q (.ref r) (St b h' t')) : wpAny (model prog w) A (call (.type "range") [.int i u, .int j v]) Q E (St b h t) :=
  call_range_2 (q _ _ _ _ _ _ (Ex.push _ _) (IsRange.new _ _ _ _ _ _ _))
theorem rng1 {i : Int} {u : Tok} {Q : Value → Shared → Prop} (q : ∀ r h' t' t1 t2 t3, Ex h h' → IsRange h' r 0 i 1 t1 t2 t3 → Q (.ref r) (St b h' t')) : wpAny (model prog w) A (call (.type "range") [.int i u]) Q E (St b h t) :=
  call_range_1 (q _ _ _ _ _ _ (Ex.push _ _) (IsRange.new _ _ _ _ _ _ _))
theorem itemT {value slice : Expr} {T : Addr} {l : List Value} {j : Nat} {u : Tok} {x : Value} {Q : Value → Shared → Prop} (ht : h.IsTuple T l.toArray) (hz : l.length ≤ 1000000) (hx : l[j]? = some x) (q : Q x (St b h t))
    (hs : subscripted slice false (.ref T) (.int (j : Int) u) = operate [.ref T, .int (j : Int) u] (getItem (.ref T) (.int (j : Int) u)) := by with_unfolding_all rfl) :
    wpAny (model prog w) A (subscriptTail value slice (.ref T) (.int (j : Int) u)) Q E (St b h t) := by
  have hj : j < l.length := (List.getElem?_eq_some_iff.mp hx).1
  refine item_tupleT (s := St b h t) (j := j) ht (by omega) (by omega) ?_ hx q hs
  have e : seqIndex? (j : Int) l.length = some j := by
    have h1 : ¬ ((j : Int) < 0) := by omega
    have h2 : (j : Int) < (l.length : Int) := by omega
    unfold seqIndex?
    simp only [if_neg h1]
    simp [hj]
  exact e
end

theorem Ex.tup {h h' : Heap} {a : Addr} {its : Array Value} (k : Ex h h') (x : h.IsTuple a its) : h'.IsTuple a its := let ⟨o, e, r⟩ := x; ⟨o, k _ _ e, r⟩
theorem Ex.lst {h h' : Heap} {a : Addr} {its : Array Value} (k : Ex h h') (x : h.IsList a its) : h'.IsList a its := let ⟨o, e, r⟩ := x; ⟨o, k _ _ e, r⟩

/-- an object of Whitespace, made: its counts, its blanks behind, its signs and tabs -/
structure Ws (h : Heap) (x : Addr) (cs : List Int) (bk n nt : Int) : Prop where
  all : ∃ dx m T C vs tb tn tt, h.get? x = some (wsObj dx) ∧ h.Ns dx m ∧ m "n" = some (.int n tn) ∧ m "nt" = some (.int nt tt) ∧ m "norm" = some (.ref T) ∧ m "is_simple" = some (.bool (decide (cs.length ≤ 1))) ∧
    m "longest_run_of_spaces" = none ∧ m "indent_level" = none ∧ m "equal" = none ∧ m "less" = none ∧ h.IsTuple T #[.ref C, .int bk tb] ∧ h.IsTuple C (List.toArray vs) ∧ IntsAre vs cs
theorem Ws.ex {h h' : Heap} {x : Addr} {cs : List Int} {bk n nt : Int} (X : Ws h x cs bk n nt) (k : Ex h h') : Ws h' x cs bk n nt := by
  obtain ⟨dx, m, T, C, vs, tb, tn, tt, h1, h2, a, b, c, d, e, f, i, j, h3, h4, h5⟩ := X.all
  exact ⟨dx, m, T, C, vs, tb, tn, tt, k _ _ h1, h2.keeps k, a, b, c, d, e, f, i, j, (k.tup h3), (k.tup h4), h5⟩

def runF (cs : List Int) (bk : Int) : Int := max ((cs.length : Int) - 1) bk
def ilP (cs : List Int) (ts M : Nat) : Int := M.fold (fun k _ a => a + (((ts + k) / ts : Nat) : Int) * cs.getD (ts + k) 0) 0
theorem ilP_succ (cs : List Int) (ts k : Nat) : ilP cs ts (k + 1) = ilP cs ts k + (((ts + k) / ts : Nat) : Int) * cs.getD (ts + k) 0 := rfl
def ilF (cs : List Int) (bk nt : Int) (ts : Nat) : Int := bk + (ts : Int) * (ilP cs ts (cs.length - ts) + nt)

section
variable {prog : Program} {w : World} {A : Around} {E : Value → Shared → Prop} {b : Shared} {hp : Heap} {t : Nat} {mg mb : Str → Option Value} {g : Heap}
theorem run_spec {Q : Value → Shared → Prop} (G : Gd w mg mb g) (k : Ex g hp) (r : Room A 10 30) {x : Addr} {cs : List Int} {bk n nt : Int} (X : Ws hp x cs bk n nt) (hz : cs.length ≤ 1000)
    (q : ∀ h' tk t', Ex hp h' → Q (.int (runF cs bk) t') (St b h' tk)) :
    wpAny (model prog w) A (call (.ref 45) [.ref x]) Q E (St b hp t) := by
  refine call_K (f := 45) [("self", .ref x)] G k (by kernel_rfl) (by kernel_rfl) (by kernel_rfl) (by have := r.dp; omega) (by kernel_rfl) (by kernel_rfl) (by kernel_rfl) (by kernel_rfl) (by kernel_rfl) (by kernel_rfl) (by kernel_rfl) fun h₀ hn k₀ => ?_
  generalize hL : hp.objs.size = L at hn ⊢
  have hfr : hp.get? L = none := hL ▸ get_size _
  obtain ⟨dx, m, T, C, vs, tb, tn, tt, h1, h2, a1, a2, a3, a4, a5, a6, a7, a8, h3, h4, h5⟩ := X.all
  refine wpAny_execs_cons ?_
  refine Assign_Tuple ?_
  refine Attribute_name ?_
  refine nmL hn (by with_unfolding_all rfl) ?_
  refine attrN G (k.trans k₀) (k₀ _ _ h1) (h2.keeps k₀) a3 ?_
  refine asgT2 r.hh ((k₀.tup h3)) hn fun h₁ t₁ n₁ k₁ => ?_
  have k₁' : Ex hp h₁ := ((k₀.but _).trans k₁).fresh fun _ e => e ▸ hfr
  have hl : vs.length = cs.length := h5.length
  refine wpAny_execs_cons ?_
  refine wpAny_Return_some ?_
  refine Call_ ?_
  refine nmB G (k.trans k₁') ?_
  refine PyProof.Rows.callWith_builtin1 ?_
  refine args_cons ?_
  refine wpAny_BinOp ?_
  refine Call_ ?_
  refine nmB G (k.trans k₁') ?_
  refine PyProof.Rows.callWith_builtin1 ?_
  refine args_cons ?_
  refine nmL n₁ (by simp only [ofString_inj]; rfl) ?_
  refine args_nil ?_
  refine lenT ((k₁'.tup h4)) (by rw [List.size_toArray, hl]; omega) (cInt (subI (args_cons (nmL n₁ (if_pos rfl) (args_nil (max2 r.hh fun h' t' tk k' => ?_))))))
  rw [List.size_toArray, hl]
  exact q _ _ _ (k₁'.trans k')

theorem il_spec {Q : Value → Shared → Prop} (G : Gd w mg mb g) (k : Ex g hp) (r : Room A 10 30) {x : Addr} {cs : List Int} {bk n nt : Int} (X : Ws hp x cs bk n nt) (hz : cs.length ≤ 1000) {ts : Nat} {t2 : Tok} (h1 : 1 ≤ ts) (h6 : ts ≤ 1000)
    (q : ∀ h' tk t', Ex hp h' → Q (.int (ilF cs bk nt ts) t') (St b h' tk)) :
    wpAny (model prog w) A (call (.ref 52) [.ref x, .int (ts : Int) t2]) Q E (St b hp t) := by
  refine call_K (f := 52) [("self", .ref x), ("tabsize", .int (ts : Int) t2)] G k (by kernel_rfl) (by kernel_rfl) (by kernel_rfl) (by have := r.dp; omega) (by kernel_rfl) (by kernel_rfl) (by kernel_rfl) (by kernel_rfl) (by kernel_rfl) (by kernel_rfl) (by kernel_rfl) fun h₀ hn k₀ => ?_
  generalize hL : hp.objs.size = L at hn ⊢
  have hfr : hp.get? L = none := hL ▸ get_size _
  obtain ⟨dx, m, T, C, vs, tb, tn, tt, w1, w2, a1, a2, a3, a4, a5, a6, a7, a8, w3, w4, w5⟩ := X.all
  have hl : vs.length = cs.length := w5.length
  refine wpAny_execs_cons ?_
  refine Assign_Tuple ?_
  refine Attribute_name ?_
  refine nmL hn (by with_unfolding_all rfl) ?_
  refine attrN G (k.trans k₀) (k₀ _ _ w1) (w2.keeps k₀) a3 ?_
  refine asgT2 r.hh ((k₀.tup w3)) hn fun h₁ t₁ n₁ k₁ => ?_
  have k₁' : Ex hp h₁ := ((k₀.but _).trans k₁).fresh fun _ e => e ▸ hfr
  refine wpAny_execs_cons (asgL (cInt ⟨_, _, _, rfl, n₁, fun h₂ n₂ k₂ => ?_⟩))
  have k₂' : Ex hp h₂ := ((k₁'.but _).trans k₂).fresh fun _ e => e ▸ hfr
  refine wpAny_execs_cons ?_
  refine wpAny_For ?_
  refine Call_ ?_
  refine nmB G (k.trans k₂') ?_
  refine PyProof.Rows.callWith_type1 ?_
  refine args_cons ?_
  refine nmL n₂ (by simp only [ofString_inj]; rfl) ?_
  refine args_cons ?_
  refine Call_ ?_
  refine nmB G (k.trans k₂') ?_
  refine PyProof.Rows.callWith_builtin1 ?_
  refine args_cons ?_
  refine nmL n₂ (by simp only [ofString_inj]; rfl) ?_
  refine args_nil ?_
  refine lenT ((k₂'.tup w4)) (by rw [List.size_toArray, hl]; omega) ?_
  rw [List.size_toArray, hl]
  refine args_nil ?_
  refine rng2 fun rr h₃ t₃ u1 u2 u3 k₃ hr => ?_
  have k₃' : Ex hp h₃ := k₂'.trans k₃
  have n₃ := n₂.keeps k₃
  have hLt : L < h₃.objs.size := n₃.lt
  refine forRange (n := cs.length - ts) r.hh hr (by omega) (by omega) (by omega) (by omega) (by split <;> omega) (· = L)
    (fun i h => ∃ m tk, h.Ns L m ∧ m "self" = some (.ref x) ∧ m "tabsize" = some (.int (ts : Int) t2) ∧ m "count" = some (.ref C) ∧ m "trailing" = some (.int bk tb) ∧ m "il" = some (.int (ilP cs ts i) tk))
    (fun a e => e ▸ hLt) (fun h' x => ⟨_, _, n₃.keeps x, by simp only [ofString_inj]; rfl, by simp only [ofString_inj]; rfl, by simp only [ofString_inj]; rfl, by simp only [ofString_inj]; rfl, if_pos rfl⟩)
    (fun i h₀ h₁ ⟨m, tk, z, zz⟩ x => ⟨m, tk, z.at' fun o e => x _ o (Nat.ne_of_lt hLt) e, zz⟩)
    (fun i tk h₄ t₄ E' hi ⟨m, tk', z1, z2, z3, z4, z5, z6⟩ k₄ _ => ?_) fun h₄ t₄ ⟨m, tk', z1, z2, z3, z4, z5, z6⟩ k₄ => ?_
  · have k₄' : Ex hp h₄ := ((k₃'.but _).trans k₄).fresh fun _ e => e ▸ hfr
    refine asgN z1 fun h₅ y1 k₅ => ?_
    have k₅' : Ex hp h₅ := ((k₄'.but _).trans k₅).fresh fun _ e => e ▸ hfr
    refine wpAny_execs_cons ?_
    refine asgL ?_
    refine wpAny_BinOp ?_
    refine nmL y1 (by simp only [ofString_inj]; exact z6) ?_
    refine wpAny_BinOp ?_
    refine wpAny_BinOp ?_
    refine nmL y1 (if_pos rfl) ?_
    refine nmL y1 (by simp only [ofString_inj]; exact z3) ?_
    refine divR (by omega) (by omega) ?_
    refine Subscript_ ?_
    refine nmL y1 (by simp only [ofString_inj]; exact z4) ?_
    refine nmL y1 (if_pos rfl) ?_
    have hlt : ts + i < vs.length := by omega
    obtain ⟨tv, hv⟩ := w5.int_at (ts + i) vs[ts + i] (by simp [hlt])
    refine itemT (j := ts + i) ((k₅'.tup w4)) (by omega) (x := .int (cs.getD (ts + i) 0) tv) (by rw [← hv]; simp [hlt]) ?_
    rw [Int.fdiv_eq_ediv_of_nonneg _ (by omega)]
    refine mulI (IntMulOk.of_left (intBits_le_64 ?_ ?_)) ?_
    · have : 0 ≤ ((ts : Int) + (i : Int)) / (ts : Int) := Int.ediv_nonneg (by omega) (by omega)
      omega
    · have : ((ts : Int) + (i : Int)) / (ts : Int) ≤ (ts : Int) + (i : Int) := Int.ediv_le_self _ (by omega)
      omega
    refine addI ⟨_, _, _, rfl, y1, fun h₆ x1 k₆ => wpAny_execs_nil ⟨_, _, rfl, (Kp.ofB k₅ fun a e => .inl e).trans (Kp.ofB k₆ fun a e => .inl e), ?_⟩⟩
    refine ⟨_, _, x1, by simp only [ofString_inj]; exact z2, by simp only [ofString_inj]; exact z3, by simp only [ofString_inj]; exact z4, by simp only [ofString_inj]; exact z5, if_pos rfl⟩
  · have k₄' : Ex hp h₄ := ((k₃'.but _).trans k₄).fresh fun _ e => e ▸ hfr
    refine wpAny_execs_cons ?_
    refine wpAny_Return_some ?_
    refine wpAny_BinOp ?_
    refine nmL z1 z5 ?_
    refine wpAny_BinOp ?_
    refine nmL z1 z3 ?_
    refine wpAny_BinOp ?_
    refine nmL z1 z6 ?_
    refine Attribute_name ?_
    refine nmL z1 z2 ?_
    refine attrN G (k.trans k₄') (k₄' _ _ w1) (w2.keeps k₄') a2 ?_
    refine addI ?_
    refine mulI (IntMulOk.of_left (intBits_le_64 (by omega) (by omega))) ?_
    refine addI ?_
    exact q _ _ _ k₄'
end
end
end Mine

namespace Mine
section
open PySem PySem.W PyProof.Rows PySem.SeqAt
theorem ints_eq {cs cs' : List Int} : ((List.range (min cs.length cs'.length)).all (fun j => cs.getD j 0 == cs'.getD j 0) && cs.length == cs'.length) = decide (cs = cs') := by
  by_cases h : cs = cs'
  · subst h; simp
  · rw [decide_eq_false h]
    by_cases hl : cs.length = cs'.length
    · rw [hl, Nat.min_self, beq_self_eq_true, Bool.and_true, Bool.eq_false_iff]
      intro c
      rw [List.all_eq_true] at c
      apply h
      apply List.ext_getElem hl
      intro i h1 h2
      have := c i (List.mem_range.mpr h2)
      simpa [h1, h2] using this
    · have : (cs.length == cs'.length) = false := by simpa using hl
      rw [this, Bool.and_false]
theorem size_eq {vs : List Value} {cs : List Int} (h : IntsAre vs cs) : vs.toArray.size = cs.length := by rw [List.size_toArray, h.length]
theorem intsEqAt {A : Around} {s : Shared} {vs vs' : List Value} {cs cs' : List Int} (hi : IntsAre vs cs) (hi' : IntsAre vs' cs') :
    ∀ j (h1 : j < vs.toArray.size) (h2 : j < vs'.toArray.size), EqAt A s vs.toArray[j] vs'.toArray[j] ((fun j => cs.getD j 0 == cs'.getD j 0) j) := by
  intro j h1 h2
  obtain ⟨t, e⟩ := hi.int_at j vs.toArray[j] (by simp)
  obtain ⟨t', e'⟩ := hi'.int_at j vs'.toArray[j] (by simp)
  rw [e, e']
  exact EqAt.int_int _ _ _ _
theorem ints_unique {vs : List Value} : ∀ {cs cs' : List Int}, IntsAre vs cs → IntsAre vs cs' → cs = cs' := by
  intro cs cs' h
  induction h generalizing cs' with
  | nil => intro h'; cases h'; rfl
  | cons n t _ ih => intro h'; cases h' with | cons _ _ h2 => rw [ih h2]
theorem eqCs {A : Around} {s : Shared} {C C' : Addr} {vs vs' : List Value} {cs cs' : List Int} (h : s.heap.IsTuple C (List.toArray vs)) (h' : s.heap.IsTuple C' (List.toArray vs')) (hi : IntsAre vs cs) (hi' : IntsAre vs' cs') (hu : A.units + 5 < cLine) :
    EqAt A s (.ref C) (.ref C') (decide (cs = cs')) := by
  by_cases c : C = C'
  · subst c
    obtain ⟨o, e1, _, n, e2⟩ := h
    obtain ⟨o', f1, _, n', f2⟩ := h'
    rw [e1] at f1; cases f1
    rw [e2] at f2; cases f2
    rw [ints_unique hi hi', decide_eq_true rfl]
    exact EqAt.same _
  · refine EqAt.of_refs c ?_
    have := RcAt.tuples h h' (e := fun j => cs.getD j 0 == cs'.getD j 0) (A := A) (by omega) (intsEqAt hi hi')
    rw [size_eq hi, size_eq hi', ints_eq] at this
    exact this
theorem isBool {M : Model} {A : Around} {E : Value → Shared → Prop} {b : Shared} {h : Heap} {t : Nat} {x y : Bool} {Q : Value → Shared → Prop} (q : Q (.bool (x != y)) (St b h t)) : wpAny M A (compareOp .IsNot (.bool x) (.bool y)) Q E (St b h t) := by
  refine wpAny_isNot_plain rfl ?_
  cases x <;> cases y <;> exact q

section
variable {prog : Program} {w : World} {A : Around} {E : Value → Shared → Prop} {b : Shared} {hp : Heap} {t : Nat} {mg mb : Str → Option Value} {g : Heap}
theorem eq_spec {Q : Value → Shared → Prop} (G : Gd w mg mb g) (k : Ex g hp) (r : Room A 10 60) {x y : Addr} {cs cs' : List Int} {bk n nt bk' n' nt' : Int} (X : Ws hp x cs bk n nt) (Y : Ws hp y cs' bk' n' nt')
    (q : ∀ h' tk, Ex hp h' → Q (.bool (decide (cs = cs' ∧ bk = bk'))) (St b h' tk)) :
    wpAny (model prog w) A (call (.ref 59) [.ref x, .ref y]) Q E (St b hp t) := by
  refine call_K (f := 59) [("self", .ref x), ("other", .ref y)] G k (by kernel_rfl) (by kernel_rfl) (by kernel_rfl) (by have := r.dp; omega) (by kernel_rfl) (by kernel_rfl) (by kernel_rfl) (by kernel_rfl) (by kernel_rfl) (by kernel_rfl) (by kernel_rfl) fun h₀ hn k₀ => ?_
  obtain ⟨dx, m, T, C, vs, tb, tn, tt, w1, w2, a1, a2, a3, a4, a5, a6, a7, a8, w3, w4, w5⟩ := (X.ex k₀).all
  obtain ⟨dy, my, Ty, Cy, vsy, tby, tny, tty, y1, y2, b1, b2, b3, b4, b5, b6, b7, b8, y3, y4, y5⟩ := (Y.ex k₀).all
  refine wpAny_execs_cons ?_
  refine wpAny_Return_some ?_
  refine wpAny_Compare1 ?_
  refine Attribute_name ?_
  refine nmL hn (by with_unfolding_all rfl) ?_
  refine attrN G (k.trans k₀) w1 w2 a3 ?_
  refine Attribute_name ?_
  refine nmL hn (by with_unfolding_all rfl) ?_
  refine attrN G (k.trans k₀) y1 y2 b3 ?_
  refine eq_tupleAt (e := fun j => if j = 0 then decide (cs = cs') else (bk == bk')) w3 y3 (by have := r.un; show A.units + 3 < _; omega) ?_ ?_
  · intro j h1 h2
    simp only [List.size_toArray, List.length_cons, List.length_nil] at h1
    match j, h1 with
    | 0, _ => exact eqCs w4 y4 w5 y5 (by have := r.un; show A.units + 3 + 1 + 5 < _; omega)
    | 1, _ => exact EqAt.int_int _ _ _ _
  · have : ((List.range (min (#[Value.ref C, .int bk tb] : Array Value).size (#[Value.ref Cy, .int bk' tby] : Array Value).size)).all (fun j => if j = 0 then decide (cs = cs') else (bk == bk')) && (#[Value.ref C, .int bk tb] : Array Value).size == (#[Value.ref Cy, .int bk' tby] : Array Value).size) = decide (cs = cs' ∧ bk = bk') := by
      show ((List.range 2).all _ && true) = _
      rw [Bool.and_true, show List.range 2 = [0, 1] from rfl]
      simp only [List.all_cons, List.all_nil, Bool.and_true, if_true, Nat.one_ne_zero, if_false]
      by_cases c1 : cs = cs' <;> by_cases c2 : bk = bk' <;> simp [c1, c2]
    rw [this]
    exact q _ _ k₀

def lessF (cs : List Int) (bk n nt : Int) (cs' : List Int) (bk' n' nt' : Int) : Bool :=
  if n ≥ n' then false
  else if cs.length ≤ 1 ∧ cs'.length ≤ 1 then decide (nt ≤ nt')
  else (List.range (max (runF cs bk) (runF cs' bk')).toNat).all fun i => decide (ilF cs bk nt (2 + i) < ilF cs' bk' nt' (2 + i))

theorem less_spec {Q : Value → Shared → Prop} (G : Gd w mg mb g) (k : Ex g hp) (r : Room A 20 60) {x y : Addr} {cs cs' : List Int} {bk n nt bk' n' nt' : Int} (X : Ws hp x cs bk n nt) (Y : Ws hp y cs' bk' n' nt')
    (hz : cs.length ≤ 500) (hz' : cs'.length ≤ 500) (hb : bk ≤ 500) (hb' : bk' ≤ 500) (hc : 0 ≤ bk) (hc' : 0 ≤ bk')
    (q : ∀ h' tk, Ex hp h' → Q (.bool (lessF cs bk n nt cs' bk' n' nt')) (St b h' tk)) :
    wpAny (model prog w) A (call (.ref 73) [.ref x, .ref y]) Q E (St b hp t) := by
  refine call_K (f := 73) [("self", .ref x), ("other", .ref y)] G k (by kernel_rfl) (by kernel_rfl) (by kernel_rfl) (by have := r.dp; omega) (by kernel_rfl) (by kernel_rfl) (by kernel_rfl) (by kernel_rfl) (by kernel_rfl) (by kernel_rfl) (by kernel_rfl) fun h₀ hn k₀ => ?_
  generalize hL : hp.objs.size = L at hn ⊢
  have hfr : hp.get? L = none := hL ▸ get_size _
  have rr : ∀ {env : Env}, Room (A.deeper env) 10 30 := (r.le (d' := 11) (u' := 33) (by omega) (by omega)).deeper
  have X₀ := X.ex k₀
  have Y₀ := Y.ex k₀
  obtain ⟨dx, m, T, C, vs, tb, tn, tt, w1, w2, a1, a2, a3, a4, a5, a6, a7, a8, w3, w4, w5⟩ := X₀.all
  obtain ⟨dy, my, Ty, Cy, vsy, tby, tny, tty, y1, y2, b1, b2, b3, b4, b5, b6, b7, b8, y3, y4, y5⟩ := Y₀.all
  refine wpAny_execs_cons ?_
  refine wpAny_If ?_
  refine wpAny_isTrue_Compare1 ?_
  refine Attribute_name ?_
  refine nmL hn (by with_unfolding_all rfl) ?_
  refine attrN G (k.trans k₀) w1 w2 a1 ?_
  refine Attribute_name ?_
  refine nmL hn (by with_unfolding_all rfl) ?_
  refine attrN G (k.trans k₀) y1 y2 b1 ?_
  refine geI ?_
  refine trB ?_
  by_cases c1 : n ≥ n'
  · rw [decide_eq_true c1, if_pos rfl]
    refine wpAny_execs_cons ?_
    refine wpAny_Return_some ?_
    refine wpAny_Constant_bool ?_
    have := q h₀ (t + [(Str.ofString "self", Value.ref x), (Str.ofString "other", Value.ref y)].length + 1 + 1) k₀
    unfold lessF at this
    rw [if_pos c1] at this
    exact this
  rw [decide_eq_false c1, if_neg (by simp)]
  refine wpAny_execs_nil ?_
  refine wpAny_execs_cons ?_
  refine wpAny_If ?_
  refine wpAny_mono (Q := fun c s => c = (decide (cs.length ≤ 1) && decide (cs'.length ≤ 1)) ∧ ∃ t', s = St b h₀ t') ?_ (fun c s hc => ?_) fun _ _ x => x
  · refine isTrue_and ?_
    refine isTrue_plain ?_
    refine Attribute_name ?_
    refine nmL hn (by with_unfolding_all rfl) ?_
    refine attrN G (k.trans k₀) w1 w2 a4 ?_
    refine trB ?_
    by_cases c2 : cs.length ≤ 1
    · rw [decide_eq_true c2, if_pos rfl, Bool.true_and]
      refine isTrue_and ?_
      refine isTrue_plain ?_
      refine Attribute_name ?_
      refine nmL hn (by with_unfolding_all rfl) ?_
      refine attrN G (k.trans k₀) y1 y2 b4 ?_
      refine trB ?_
      by_cases c3 : cs'.length ≤ 1
      · rw [decide_eq_true c3, if_pos rfl]
        exact isTrue_and_nil ⟨rfl, _, rfl⟩
      · rw [decide_eq_false c3, if_neg (by simp)]
        exact ⟨rfl, _, rfl⟩
    · rw [decide_eq_false c2, if_neg (by simp), Bool.false_and]
      exact ⟨rfl, _, rfl⟩
  obtain ⟨rfl, t₁, rfl⟩ := hc
  by_cases c2 : cs.length ≤ 1 ∧ cs'.length ≤ 1
  · rw [decide_eq_true c2.1, decide_eq_true c2.2, Bool.true_and, if_pos rfl]
    refine wpAny_execs_cons ?_
    refine wpAny_Return_some ?_
    refine wpAny_Compare1 ?_
    refine Attribute_name ?_
    refine nmL hn (by with_unfolding_all rfl) ?_
    refine attrN G (k.trans k₀) w1 w2 a2 ?_
    refine Attribute_name ?_
    refine nmL hn (by with_unfolding_all rfl) ?_
    refine attrN G (k.trans k₀) y1 y2 b2 ?_
    refine leI ?_
    have := q h₀ (t₁ + 1 + 1) k₀
    unfold lessF at this
    rw [if_neg c1, if_pos c2] at this
    exact this
  have c3 : (decide (cs.length ≤ 1) && decide (cs'.length ≤ 1)) = false := by
    rw [← Bool.not_eq_true]; simpa using c2
  rw [c3, if_neg (by simp)]
  have hq : ∀ h' tk, Ex hp h' → Q (.bool ((List.range (max (runF cs bk) (runF cs' bk')).toNat).all fun i => decide (ilF cs bk nt (2 + i) < ilF cs' bk' nt' (2 + i)))) (St b h' tk) := fun h' tk x => by
    have := q h' tk x
    unfold lessF at this
    rw [if_neg c1, if_neg c2] at this
    exact this
  refine wpAny_execs_nil ?_
  refine wpAny_execs_cons ?_
  refine asgL ?_
  refine wpAny_BinOp ?_
  refine Call_ ?_
  refine nmB G (k.trans k₀) ?_
  refine PyProof.Rows.callWith_builtin1 ?_
  refine args_cons ?_
  refine MethodCall_ ?_
  refine nmL hn (by with_unfolding_all rfl) ?_
  refine methN (f := 45) G (k.trans k₀) w1 w2 a5 ?_
  refine cw0 G (k.trans k₀) ?_
  refine run_spec G (k.trans k₀) rr X₀ (by omega) fun h₁ t₂ u₁ k₁ => ?_
  have k₁' : Ex hp h₁ := k₀.trans k₁
  refine args_cons ?_
  refine MethodCall_ ?_
  refine nmL (hn.keeps k₁) (by with_unfolding_all rfl) ?_
  refine methN (f := 45) G (k.trans k₁') (k₁ _ _ y1) (y2.keeps k₁) b5 ?_
  refine cw0 G (k.trans k₁') ?_
  refine run_spec G (k.trans k₁') rr (Y₀.ex k₁) (by omega) fun h₂ t₃ u₂ k₂ => ?_
  have k₂' : Ex hp h₂ := k₁'.trans k₂
  refine args_nil ?_
  refine max2 r.hh fun h₃ u₃ t₄ k₃ => ?_
  have k₃' : Ex hp h₃ := k₂'.trans k₃
  refine cInt (addI ⟨_, _, _, rfl, hn.keeps (k₁.trans (k₂.trans k₃)), fun h₄ n₄ k₄ => ?_⟩)
  have k₄' : Ex hp h₄ := ((k₃'.but _).trans k₄).fresh fun _ e => e ▸ hfr
  refine wpAny_execs_cons ?_
  refine wpAny_For ?_
  refine Call_ ?_
  refine nmB G (k.trans k₄') ?_
  refine PyProof.Rows.callWith_type1 ?_
  refine args_cons ?_
  refine cInt ?_
  refine args_cons ?_
  refine wpAny_BinOp ?_
  refine nmL n₄ (if_pos rfl) ?_
  refine cInt (addI ?_)
  refine args_nil ?_
  refine rng2 fun rg h₅ t₅ u4 u5 u6 k₅ hr => ?_
  have n₅ := n₄.keeps k₅
  have k₅' : Ex hp h₅ := k₄'.trans k₅
  have hLt : L < h₅.objs.size := n₅.lt
  have hR : 0 ≤ max (runF cs bk) (runF cs' bk') ∧ max (runF cs bk) (runF cs' bk') ≤ 600 := by unfold runF; omega
  generalize hN : max (runF cs bk) (runF cs' bk') = N at hr hR hq
  refine forRange (n := N.toNat) r.hh hr (by omega) (by omega) (by omega) (by omega) (by split <;> omega) (· = L)
    (fun i h => (∃ m, h.Ns L m ∧ m "self" = some (.ref x) ∧ m "other" = some (.ref y)) ∧ ∀ j, j < i → ilF cs bk nt (2 + j) < ilF cs' bk' nt' (2 + j))
    (fun a e => e ▸ hLt) (fun h' x => ⟨⟨_, n₅.keeps x, by simp only [ofString_inj]; rfl, by simp only [ofString_inj]; rfl⟩, fun j hj => absurd hj (Nat.not_lt_zero _)⟩)
    (fun i h₀ h₁ ⟨⟨m, z, zz⟩, z'⟩ x => ⟨⟨m, z.at' fun o e => x _ o (Nat.ne_of_lt hLt) e, zz⟩, z'⟩)
    (fun i tk h₆ t₆ E' hi ⟨⟨m, z1, z2, z3⟩, hj⟩ k₆ _ => ?_) fun h₆ t₆ ⟨⟨m, z1, z2, z3⟩, hj⟩ k₆ => ?_
  · have k₆' : Ex hp h₆ := ((k₅'.but _).trans k₆).fresh fun _ e => e ▸ hfr
    refine asgN z1 fun h₇ n7 k₇ => ?_
    have k₇' : Ex hp h₇ := ((k₆'.but _).trans k₇).fresh fun _ e => e ▸ hfr
    have e2 : (2 : Int) + (i : Int) = ((2 + i : Nat) : Int) := by omega
    refine wpAny_execs_cons ?_
    refine wpAny_If ?_
    refine wpAny_isTrue_Compare1 ?_
    refine MethodCall_ ?_
    refine nmL n7 (by simp only [ofString_inj]; exact z2) ?_
    obtain ⟨dx, m, T, C, vs, tb, tn, tt, w1, w2, a1, a2, a3, a4, a5, a6, a7, a8, w3, w4, w5⟩ := (X.ex k₇').all
    obtain ⟨dy, my, Ty, Cy, vsy, tby, tny, tty, y1, y2, b1, b2, b3, b4, b5, b6, b7, b8, y3, y4, y5⟩ := (Y.ex k₇').all
    refine methN (f := 52) G (k.trans k₇') w1 w2 a6 ?_
    refine cw1 G ?_
    refine args_cons ?_
    refine nmL n7 (if_pos rfl) ?_
    refine args_nil ⟨k.trans k₇', ?_⟩
    rw [e2]
    refine il_spec G (k.trans k₇') rr (X.ex k₇') (by omega) (by omega) (by omega) fun h₈ t₈ u8 k₈ => ?_
    have k₈' : Ex hp h₈ := k₇'.trans k₈
    refine MethodCall_ ?_
    refine nmL (n7.keeps k₈) (by simp only [ofString_inj]; exact z3) ?_
    refine methN (f := 52) G (k.trans k₈') (k₈ _ _ y1) (y2.keeps k₈) b6 ?_
    refine cw1 G ?_
    refine args_cons ?_
    refine nmL (n7.keeps k₈) (if_pos rfl) ?_
    refine args_nil ⟨k.trans k₈', ?_⟩
    rw [e2]
    refine il_spec G (k.trans k₈') rr (Y.ex k₈') (by omega) (by omega) (by omega) fun h₉ t₉ u9 k₉ => ?_
    have k₉' : Ex hp h₉ := k₈'.trans k₉
    refine geI ?_
    refine trB ?_
    by_cases c4 : ilF cs bk nt (2 + i) < ilF cs' bk' nt' (2 + i)
    · rw [decide_eq_false (by omega), if_neg (by simp)]
      refine wpAny_execs_nil ?_
      refine wpAny_execs_nil ⟨_, _, rfl, ?_, ⟨_, (n7.keeps k₈).keeps k₉, by simp only [ofString_inj]; exact z2, by simp only [ofString_inj]; exact z3⟩, fun j h => ?_⟩
      · exact ((Kp.ofB k₇ fun a e => .inl e).trans (Kp.ofEx k₈ _ _)).trans (Kp.ofEx k₉ _ _)
      · by_cases e : j = i
        · rw [e]; exact c4
        · exact hj j (by omega)
    · rw [decide_eq_true (by omega), if_pos rfl]
      refine wpAny_execs_cons ?_
      refine wpAny_Return_some ?_
      refine wpAny_Constant_bool ?_
      have := hq h₉ t₉ k₉'
      rw [show ((List.range N.toNat).all fun i => decide (ilF cs bk nt (2 + i) < ilF cs' bk' nt' (2 + i))) = false from by
        rw [List.all_eq_false]; exact ⟨i, List.mem_range.mpr hi, by simpa using c4⟩] at this
      exact this
  · have k₆' : Ex hp h₆ := ((k₅'.but _).trans k₆).fresh fun _ e => e ▸ hfr
    refine wpAny_execs_cons ?_
    refine wpAny_Return_some ?_
    refine wpAny_Constant_bool ?_
    have := hq h₆ t₆ k₆'
    rw [show ((List.range N.toNat).all fun i => decide (ilF cs bk nt (2 + i) < ilF cs' bk' nt' (2 + i))) = true from by
      rw [List.all_eq_true]; exact fun i hi => decide_eq_true (hj i (List.mem_range.mp hi))] at this
    exact this
end
end
end Mine

namespace Mine
section
open PySem PySem.W PyProof.Rows PySem.SeqAt
section
variable {prog : Program} {w : World} {A : Around} {E : Value → Shared → Prop} {env : Env} {b : Shared} {h : Heap} {t : Nat} {mg mb : Str → Option Value} {g : Heap}

theorem sz24 {n : Nat} (h : n ≤ 1000000) : n ≤ sizeLine := by rw [sizeLine_eq]; omega
theorem push_list (h : Heap) (its : Array Value) : (h.push { cls := .type "list", data := .seq its }).IsList h.objs.size its := ⟨_, Heap.get?_push_size _ rfl, rfl, _, rfl⟩
theorem push_tuple (h : Heap) (its : Array Value) : (h.push { cls := .type "tuple", data := .seq its }).IsTuple h.objs.size its := ⟨_, Heap.get?_push_size _ rfl, rfl, _, rfl⟩

theorem nList {vs : List Value} {Q : Value → Shared → Prop} (hz : vs.length ≤ 1000000) (q : ∀ h', Ex h h' → h'.IsList h.objs.size vs.toArray → Q (.ref h.objs.size) (St b h' t)) : wpAny (model prog w) A (newList vs) Q E (St b h t) :=
  wpAny_newList (q _ (Ex.push _ _) (push_list _ _)) (sz24 hz)
theorem nTuple {vs : List Value} {Q : Value → Shared → Prop} (hz : vs.length ≤ 1000000) (q : ∀ h', Ex h h' → h'.IsTuple h.objs.size vs.toArray → Q (.ref h.objs.size) (St b h' t)) : wpAny (model prog w) A (newTuple vs) Q E (St b h t) :=
  wpAny_newTuple (q _ (Ex.push _ _) (push_tuple _ _)) (sz24 hz)
/-- a list's object, written out -/
theorem lstObj {l : Addr} {its : Array Value} (x : h.IsList l its) : ∃ d n sl, h.get? l = some { cls := .type "list", dict := d, data := .seq its n, slots := sl } := by
  rcases x with ⟨o, e, c, n, f⟩
  refine ⟨o.dict, n, o.slots, e.trans ?_⟩
  rw [← c, ← f]
theorem addL {l l' : Addr} {vs ws : List Value} {Q : Value → Shared → Prop} (hl : h.IsList l vs.toArray) (hb : h.IsList l' ws.toArray) (hz : vs.length + ws.length ≤ 1000000)
    (q : ∀ h', Ex h h' → h'.IsList h.objs.size (vs ++ ws).toArray → Q (.ref h.objs.size) (St b h' t)) : wpAny (model prog w) A (binaryOp .Add (.ref l) (.ref l')) Q E (St b h t) := by
  obtain ⟨d, n, sl, e⟩ := lstObj hl
  obtain ⟨d', n', sl', e'⟩ := lstObj hb
  have fits : vs.toArray.size + ws.toArray.size ≤ sizeLine := sz24 (by simpa using hz)
  have sum := list_addW l l' vs.toArray ws.toArray n n' d d' sl sl' fits
  have end_ := q _ (Ex.push _ _) (push_list _ _)
  rw [← List.append_toArray] at end_
  exact concat_meets (Heap.IsList.typeIs (s := St b h t) hl) (Heap.IsList.typeIs (s := St b h t) hb) noFill_list_add seq_list_add F.slot_list_add F.entry_list_add (F.args_list_add_2 _ _) sum ⟨e, e', end_⟩
theorem mulL {l : Addr} {vs : List Value} {x : Int} {u : Tok} {Q : Value → Shared → Prop} (hl : h.IsList l vs.toArray) (hlo : 0 ≤ x) (hhi : x ≤ 1000) (hz : vs.length ≤ 1000)
    (q : ∀ h', Ex h h' → h'.IsList h.objs.size (List.replicate x.toNat vs).flatten.toArray → Q (.ref h.objs.size) (St b h' t)) : wpAny (model prog w) A (binaryOp .Mult (.ref l) (.int x u)) Q E (St b h t) := by
  obtain ⟨d, n, sl, e⟩ := lstObj hl
  have lim : vs.toArray.size * x.toNat ≤ 1000 * 1000 := Nat.mul_le_mul (by simpa using hz) (by omega)
  have tl : (St b h t).TypeIs (.ref l) "list" := Heap.IsList.typeIs (s := St b h t) hl
  have c1 : ¬ (!Builtin.List.listFitsIndex x) = true := by unfold Builtin.List.listFitsIndex; simp; omega
  have c3 : ¬ Builtin.List.listTooLong (vs.toArray.size * x.toNat) = true := by unfold Builtin.List.listTooLong; rw [decide_eq_true_eq, sizeLine_eq]; omega
  -- what the list makes of it, once the int has declined
  have made : wpAny (model prog w) A (call (.builtin "list.__mul__") [.ref l, .int x u]) Q E (St b h t) := by
    refine call_meets F.slot_list_mul tl F.entry_list_mul (F.args_list_mul_2 _ _) (lm_list_mul_any l vs.toArray n d sl x u c1 (by omega) c3) ⟨e, ?_⟩
    rw [listMul_foldl_if]
    exact q _ (Ex.push _ _) (push_list _ _)
  have declined : wpAny (model prog w) A (call (.builtin "int.__rmul__") [.int x u, .ref l]) (fun v s' => v = .notImplemented ∧ s'.TypeIs (.ref l) "list" ∧ wpAny (model prog w) A (call (.builtin "list.__mul__") [.ref l, .int x u]) Q E s') E (St b h t) :=
    call_meets F.slot_int_rmul (typeIs_int _ x u) F.entry_int_rmul (F.args_int_rmul_2 _ _) (lm_int_rmul_list_any x u l vs.toArray n d sl) ⟨e, rfl, tl, made⟩
  exact wpAny_binaryOp_repeat_ref (by decide) tl (fun s' => typeIs_int s' x u) noFill_list_mul F.fills_int_mul F.slot_int_rmul repeat_list F.slot_int_index.lookup declined

theorem lenL {a : Addr} {its : Array Value} {Q : Value → Shared → Prop} (hl : h.IsList a its) (hz : its.size ≤ 1000000) (q : Q (.int its.size (t + 1)) (St b h (t + 2))) : wpAny (model prog w) A (call (.builtin "len") [.ref a]) Q E (St b h t) :=
  len_list hl (by omega) q
theorem tupL {l : Addr} {its : Array Value} {Q : Value → Shared → Prop} (hl : h.IsList l its) (hz : its.size ≤ 1000000) (q : ∀ a h', Ex h h' → h.get? a = none → h'.IsTuple a its → Q (.ref a) (St b h' t)) : wpAny (model prog w) A (call (.type "tuple") [.ref l]) Q E (St b h t) := by
  refine call_tuple_list hl (fun h' k => ?_) (sz24 hz)
  refine q _ _ (Ex.trans k (Ex.push _ _)) ?_ (push_tuple _ _)
  cases e : h.get? h'.objs.size with
  | none => rfl
  | some o => exact absurd (Heap.lt_size (k _ _ e)) (Nat.lt_irrefl _)
theorem itemL {value slice : Expr} {l : Addr} {its : Array Value} {k : Int} {u : Tok} {x : Value} {Q : Value → Shared → Prop} (hl : h.IsList l its) (h0 : 0 ≤ k) (hz : k ≤ 1000000) (hx : its[k.toNat]? = some x) (q : Q x (St b h t))
    (hs : subscripted slice false (.ref l) (.int k u) = operate [.ref l, .int k u] (getItem (.ref l) (.int k u)) := by with_unfolding_all rfl) :
    wpAny (model prog w) A (subscriptTail value slice (.ref l) (.int k u)) Q E (St b h t) :=
  tail_any (Heap.IsList.typeIs hl) slot_list_getitem.lookup (wpAny_getItem_list hl h0 (by omega) hx q) hs
theorem setL {l : Addr} {its : Array Value} {k : Int} {u : Tok} {v : Value} {Q : Unit → Shared → Prop} (hl : h.IsList l its) (h0 : 0 ≤ k) (hz : its.size ≤ 1000000) (hk : k < its.size)
    (q : ∀ h', h'.IsList l (its.setIfInBounds k.toNat v) → ExB (· = l) h h' → Q () (St b h' t)) : wpAny (model prog w) A (setItem (.ref l) (.int k u) v) Q E (St b h t) :=
  wpAny_setItem_list hl h0 (by omega) hk fun h' hl' hs => q h' hl' fun a o na e => hs.extBut a o na e
end

section
variable {prog : Program} {w : World} {A : Around} {E : Value → Shared → Prop} {env : Env} {b : Shared} {h : Heap} {t : Nat} {mg mb : Str → Option Value} {g : Heap}
/-- where the dict's keys are texts or hold the name, no key may stand for it unseen -/
theorem seen {name : Str} {es : List DictEntry} (hl : (getL name es).isSome = true) : aRefKeyMayBeTheName name es.toArray = false := by
  rw [aRefKeyMayBeTheName_at, Bool.and_eq_false_iff]
  by_cases c : es.any (·.key.isStr name) = true
  · left; simpa using c
  · right
    have none : es.find? (·.key.isStr name) = none := by
      rw [List.find?_eq_none]; intro e he q; exact c (List.any_eq_true.mpr ⟨e, he, q⟩)
    by_cases r : es.any (·.refKey) = true
    · delta getL at hl
      simp [none, r] at hl
    · simpa using r
theorem putL_len (name : Str) (hsh : Int) (key v : Value) : ∀ es : List DictEntry, (putL name hsh key v es).length ≤ es.length + 1
  | [] => Nat.le_refl 1
  | e :: r => by
    have := putL_len name hsh key v r
    by_cases c : e.key.isStr name = true <;> simp [putL, c] <;> omega

theorem setD {x dx : Addr} {es : List DictEntry} {n : Nat} {name : Str} {v : Value} {Q : Unit → Shared → Prop} (G : Gd w mg mb g) (k : Ex g h) (hx : h.get? x = some (wsObj dx)) (hd : h.get? dx = some (dictOf es n)) (hl : (getL name es).isSome = true) (hz : es.length ≤ 900)
    (q : ∀ h' t' hsh tk, h'.get? dx = some (dictOf (putL name hsh (.str name tk) v es) (putN name es n)) → ExB (· = dx) h h' → Q () (St b h' t'))
    (ht : takerIn (KK w) 83 name = some none := by kernel_rfl) :
    wpAny (model prog w) A (setAttr (.ref x) name v) Q E (St b h t) := by
  have X := G.X.keeps k
  have I : InstAt h x (wsObj dx) 83 (some (dictOf es n)) := ⟨hx, rfl, rfl, hd⟩
  refine set_plain (s := St b h t) X I (by kernel_rfl) (osa_open (s := { St b h t with toks := t + 1 }) X I (r := none) (by kernel_rfl) ht fun b' => ?_)
  dsimp only

  obtain ⟨cd, hc, hh⟩ := any_some (show (clsIn (KK w) 83).any (·.hasDict) = true by kernel_rfl)
  wp_walk using wpAny_loadPart' hx, wpAny_loadPart' hd, (looks_clsIn X hc).here
  refine wpAny_askSetting ?_
  have nf := seen hl
  have up : Obj.putName name (PyData.keyHash w.params name) (.str name (t + 1)) v (dictOf es n) = dictOf (putL name (PyData.keyHash w.params name) (.str name (t + 1)) v es) (putN name es n) := putName_dict ..
  have D := Heap.get?_update_self (Obj.putName name (PyData.keyHash w.params name) (.str name (t + 1)) v) hd (by rw [up]; rfl)
  have room : (putL name (PyData.keyHash w.params name) (.str name (t + 1)) v es).toArray.size ≤ sizeLine + 1 := Nat.le_trans (by rw [List.size_toArray]; exact putL_len ..) (Nat.succ_le_succ (sz24 (Nat.le_trans hz (by decide))))
  rw [up] at D
  wp_walk using wpAny_mkText, wpAny_loadPart' hd, wpAny_updatePart hd, wpAny_lookBehind D (pastItsLine_dict room)
  exact q _ _ _ _ D fun a o na e => (Heap.SameBut.update ..).extBut a o na e
/-- an attribute that the class itself holds -/
theorem attrC {name : Str} {v : Value} {expr : Bool} {Q : Value → Shared → Prop} (G : Gd w mg mb g) (k : Ex g h) (q : Q v (St b h (t + 1)))
    (e : findCls (KK w) (.ref 83) (.type "type") name = some (.val v) := by kernel_rfl) (hh : handedIn v = true := by rfl) :
    wpAny (model prog w) A (getAttr (.ref 83) name expr) Q E (St b h t) :=
  cls_value (s := St b h t) (G.X.keeps k) (mc := .type "type") (by kernel_rfl) e hh q
end
end
end Mine

namespace Mine
section
open PySem PySem.W PyProof.Rows PySem.SeqAt
structure Sc where
  cs : List Int
  b : Nat
  n : Nat
  nt : Nat
def padTo (cs : List Int) (b : Nat) : List Int := cs ++ List.replicate (b + 1 - cs.length) 0
def tabAt (cs : List Int) (b : Nat) : List Int := (padTo cs b).set b ((padTo cs b).getD b 0 + 1)
def scStep (s : Sc) (c : Nat) : Sc := if c = 32 then ⟨s.cs, s.b + 1, s.n + 1, s.nt⟩ else ⟨tabAt s.cs s.b, 0, s.n + 1, s.nt + 1⟩
def scan (l : List Nat) : Sc := l.foldl scStep ⟨[], 0, 0, 0⟩
theorem scan_snoc (l : List Nat) (c : Nat) : scan (l ++ [c]) = scStep (scan l) c := by rw [scan, List.foldl_append]; rfl
theorem padTo_len (cs : List Int) (b : Nat) : (padTo cs b).length = max cs.length (b + 1) := by unfold padTo; rw [List.length_append, List.length_replicate]; omega
theorem scan_len (l : List Nat) : (scan l).cs.length ≤ l.length ∧ (scan l).b ≤ l.length := by
  have key : ∀ (l : List Nat) (s : Sc) (k : Nat), s.cs.length ≤ k → s.b ≤ k → (l.foldl scStep s).cs.length ≤ k + l.length ∧ (l.foldl scStep s).b ≤ k + l.length := by
    intro l
    induction l with
    | nil => intro s k h1 h2; exact ⟨h1, h2⟩
    | cons c r ih =>
      intro s k h1 h2
      rw [List.foldl_cons, List.length_cons]
      have := ih (scStep s c) (k + 1) (by
        unfold scStep
        split
        · exact Nat.le_succ_of_le h1
        · show (tabAt s.cs s.b).length ≤ k + 1
          unfold tabAt
          rw [List.length_set, padTo_len]; omega) (by
        unfold scStep
        split
        · exact Nat.succ_le_succ h2
        · exact Nat.zero_le _)
      omega
  have := key l ⟨[], 0, 0, 0⟩ 0 (Nat.le_refl _) (Nat.le_refl _)
  rw [Nat.zero_add] at this
  exact this

theorem LsB {h h' : Heap} {a : Addr} {its : Array Value} {W : Addr → Prop} (x : h.IsList a its) (k : ExB W h h') (n : ¬ W a) : h'.IsList a its := let ⟨o, e, r⟩ := x; ⟨o, k _ _ n e, r⟩
theorem TpB {h h' : Heap} {a : Addr} {its : Array Value} {W : Addr → Prop} (x : h.IsTuple a its) (k : ExB W h h') (n : ¬ W a) : h'.IsTuple a its := let ⟨o, e, r⟩ := x; ⟨o, k _ _ n e, r⟩
theorem dictOf_Ns {h : Heap} {a : Addr} {es : List DictEntry} {n : Nat} (x : h.get? a = some (dictOf es n)) (k : (es.all fun e => match e.key with | .str _ _ => true | _ => false) = true) : h.Ns a (fun y => nsFind es.toArray y) := by
  refine ⟨_, _, _, x, rfl, fun e he => ?_, fun _ => rfl⟩
  have := List.all_eq_true.mp k e (by simpa using he)
  cases q : e.key with
  | str a b => exact ⟨a, b, rfl⟩
  | _ => rw [q] at this; cases this
theorem ints_rep (k : Nat) (t : Tok) : IntsAre (List.replicate k [Value.int 0 t]).flatten (List.replicate k 0) := by
  induction k with
  | zero => exact .nil
  | succ k ih => rw [List.replicate_succ, List.replicate_succ, List.flatten_cons]; exact .cons _ _ ih
theorem ints_set {vs : List Value} {cs : List Int} (h : IntsAre vs cs) : ∀ (j : Nat) (x : Int) (t : Tok), IntsAre (vs.set j (.int x t)) (cs.set j x) := by
  induction h with
  | nil => intro j x t; exact .nil
  | cons n t _ ih =>
    intro j x u
    cases j with
    | zero => exact .cons _ _ (by assumption)
    | succ j => exact .cons _ _ (ih j x u)

section
variable {prog : Program} {w : World} {A : Around} {E : Value → Shared → Prop} {b : Shared} {hp : Heap} {t : Nat} {mg mb : Str → Option Value} {g : Heap}
theorem code_K {f : Addr} {args : List Value} (binds : List (Str × Value)) {R : Result → Shared → Prop}
    (G : Gd w mg mb g) (k : Ex g hp) (hl : (KK w).lookup f = some (obAt (KK w) f)) (hd : (obAt (KK w) f).data = .func (fdAt (KK w) f)) (hcd : codeIn (KK w) (fdAt (KK w) f).code (fdAt (KK w) f).qualname = true) (hroom : A.depth < recursionLimit)
    (hbody : (fdAt (KK w) f).body = .stmts (bodyAt (KK w) f)) (hbind : bindArgs (fdAt (KK w) f) ⟨args, []⟩ = pure binds) (hcell : ((fdAt (KK w) f).scope.names.all fun x => decide (x.2 ≠ .cell)) = true) (hloc : (binds.all fun x => decide ((fdAt (KK w) f).scope.names.lookup x.1 = some .local)) = true)
    (hco : (fdAt (KK w) f).scope.isCoroutine = false) (hgen : (fdAt (KK w) f).scope.isGenerator = false) (hk : (fdAt (KK w) f).scope.kind = .function)
    (h : ∀ h₀, h₀.Ns hp.objs.size (fun x => binds.reverse.lookup x) → Ex hp h₀ →
      wpAny (model prog w) (A.deeper (callEnv (fdAt (KK w) f) hp.objs.size f)) (execs (bodyAt (KK w) f) (callEnv (fdAt (KK w) f) hp.objs.size f)) (fun fl s' => R (.ok (.ret (match fl with | .ret v => v | _ => .none))) s') (fun _ _ => False)
        (St b h₀ (t + binds.length))) :
    codeAny (model prog w) A (.call (.ref f) ⟨args, []⟩) R (St b hp t) := by
  obtain ⟨p, loose, mean, T⟩ := G.T
  refine codeAny_call_def hroom (k _ _ (G.X _ _ hl)) hd (T.nolimit.keeps k) (codeRec_of (G.X.keeps k) hcd) hbody (BindsTo.of_eq hbind) (fun x hx => of_decide_eq_true (List.all_eq_true.mp hcell x hx)) (locs hloc) (fun h₀ hn hk₀ => ?_) hco hgen hk
  exact wpAny_mono (h h₀ hn hk₀) (fun _ _ x => x) fun _ _ x => x.elim

theorem init_spec {R : Result → Shared → Prop} (G : Gd w mg mb g) (k : Ex g hp) (r : Room A 20 60) {x dx : Addr} {ws : Str} {tw : Tok} {l rest : List Nat} (hx : hp.get? x = some (wsObj dx)) (hd : hp.get? dx = some (dictOf [] 0)) (hg : g.get? dx = none)
    (ha : ws.cps.all (· < 128) = true) (hw : ws.cps.toList = l ++ 120 :: rest) (hl : ∀ c ∈ l, c = 32 ∨ c = 9) (hz : l.length ≤ 400)
    (q : ∀ h' tk, ExB (· = dx) hp h' → (∀ h'', (∀ a o, (hp.get? a = none ∨ a = x ∨ a = dx) → h'.get? a = some o → h''.get? a = some o) → Ws h'' x (scan l).cs (scan l).b (scan l).n (scan l).nt) → R (.ok (.ret .none)) (St b h' tk)) :
    codeAny (model prog w) A (.call (.ref 38) ⟨[.ref x, .str ws tw], []⟩) R (St b hp t) := by
  refine code_K (f := 38) [("self", .ref x), ("ws", .str ws tw)] G k (by kernel_rfl) (by kernel_rfl) (by kernel_rfl) (by have := r.dp; omega) (by kernel_rfl) (by kernel_rfl) (by kernel_rfl) (by kernel_rfl) (by kernel_rfl) (by kernel_rfl) (by kernel_rfl) fun h₀ hn k₀ => ?_
  generalize hL : hp.objs.size = L at hn ⊢
  have hfr : hp.get? L = none := hL ▸ get_size _
  have hne : ∀ {a : Addr} {o : Obj}, hp.get? a = some o → a ≠ L := fun e c => by rw [c, hfr] at e; cases e
  have kg : ∀ {h' : Heap}, ExB (· = dx) hp h' → Ex g h' := fun x a o e => x a o (fun c => by rw [c, hg] at e; cases e) (k a o e)
  refine wpAny_execs_cons ?_
  refine plainObj_wpAny_Assign_Attribute ?_
  refine nmL hn (by with_unfolding_all rfl) ?_
  refine nmL hn (by with_unfolding_all rfl) ?_
  refine setD G (k.trans k₀) (k₀ _ _ hx) (k₀ _ _ hd) rfl (by decide) fun h₁ t₁ s1 u1 d₁ k₁ => ?_
  have hdL : L ≠ dx := fun c => by rw [← c, hfr] at hd; cases hd
  have n₁ := hn.at' fun o e => k₁ _ o hdL e
  have p₁ : ExB (· = dx) hp h₁ := (k₀.but _).trans k₁
  refine wpAny_execs_cons ?_
  refine Assign_Tuple_swapped (names := ["S", "T"]) ?_
  refine Tuple_ ?_
  refine args_cons ?_
  refine Attribute_name ?_
  refine nmG (v := .ref 83) G (kg p₁) ?_
  refine attrC (v := .str " " 209) G (kg p₁) ?_
  refine args_cons ?_
  refine Attribute_name ?_
  refine nmG (v := .ref 83) G (kg p₁) ?_
  refine attrC (v := .str "\t" 210) G (kg p₁) ?_
  refine args_nil ?_
  refine nTuple (by decide) fun h₂ k₂ l₂ => ?_
  refine wpAny_unpackItems_tuple (items := #[.str " " 209, .str "\t" 210]) r.hh l₂ fun h₃ k₃ => ?_
  have k₃' : Ex h₁ h₃ := fun a o e => k₃ a o (Nat.ne_of_lt (Heap.lt_size (k₂ _ _ e))) (k₂ _ _ e)
  have p₃ : ExB (· = dx) hp h₃ := p₁.trans (k₃'.but _)
  refine wpAny_assignInOrder_more (wpAny_bindName (stL (h := h₃) (n₁.keeps k₃') fun h₄ n₄ k₄ => wpAny_assignInOrder_more (wpAny_bindName (stL n₄ fun h₅ n₅ k₅ => wpAny_assignInOrder_none ?_))))
  have k₅' : ExB (· = L) h₃ h₅ := k₄.trans k₅
  have p₅ : ExB (· = dx) hp h₅ := fun a o na e => k₅' a o (hne e) (p₃ a o na e)
  refine wpAny_execs_cons ?_
  refine asgL ?_
  refine List_ ?_
  refine args_nil ?_
  refine nList (by decide) fun h₆ k₆ l₆ => ?_
  refine ⟨_, _, _, rfl, n₅.keeps k₆, fun h₇ n₇ k₇ => ?_⟩
  have p₇ : ExB (· = dx) hp h₇ := fun a o na e => k₇ a o (hne e) (k₆ a o (p₅ a o na e))
  refine wpAny_execs_cons ?_
  refine wpAny_Assign_three ?_
  refine cInt ?_
  refine asgN n₇ fun h₈ n₈ k₈ => ?_
  refine asgN n₈ fun h₉ n₉ k₉ => ?_
  refine asgN n₉ fun h₁₀ n₁₀ k₁₀ => ?_
  have p₁₀ : ExB (· = dx) hp h₁₀ := fun a o na e => k₁₀ a o (hne e) (k₉ a o (hne e) (k₈ a o (hne e) (p₇ a o na e)))
  have dx₁₀ : ExB (· = L) h₁ h₁₀ := fun a o na e => k₁₀ a o na (k₉ a o na (k₈ a o na (k₇ a o na (k₆ a o (k₅' a o na (k₃' a o e))))))
  have d₁₀ := dx₁₀ _ _ (Ne.symm hdL) d₁
  have hxL := hne hx
  have x₁₀ : h₁₀.get? x = some (wsObj dx) := p₁₀ _ _ (fun c => by rw [c, hd] at hx; cases hx) hx
  have hcL : h₅.objs.size ≠ L := Nat.ne_of_gt n₅.lt
  have l₁₀ : h₁₀.IsList h₅.objs.size #[] := by
    obtain ⟨o, e, r'⟩ := l₆
    exact ⟨o, k₁₀ _ _ hcL (k₉ _ _ hcL (k₈ _ _ hcL (k₇ _ _ hcL e))), r'⟩
  generalize hc0 : h₅.objs.size = c0 at *
  have hLt : L < h₁₀.objs.size := n₁₀.lt
  have hc0t : c0 < h₁₀.objs.size := by obtain ⟨o, e, _⟩ := l₁₀; exact Heap.lt_size e
  have hcdx : c0 ≠ dx := fun c => by
    obtain ⟨o, e, e1, n, e2⟩ := l₁₀
    rw [c, d₁₀] at e; cases e; cases e2
  have hcnone : hp.get? c0 = none := by
    cases e : hp.get? c0 with
    | none => rfl
    | some o =>
      have := p₅ _ _ hcdx e
      exact absurd (Heap.lt_size this) (by rw [hc0]; exact Nat.lt_irrefl _)
  refine wpAny_execs_cons ?_
  refine wpAny_For ?_
  refine Attribute_name ?_
  refine nmL n₁₀ (by simp only [ofString_inj]; rfl) ?_
  refine get_value (s := St b h₁₀ _) (G.X.keeps (kg p₁₀)) (I := ⟨x₁₀, rfl, rfl, d₁₀⟩) (v := .str ws tw) (by kernel_rfl) (findObj_own (attr := none) (by kernel_rfl) (by kernel_rfl) rfl (by kernel_rfl)) rfl ?_
  have hsz : ws.cps.size = l.length + 1 + rest.length := by rw [← Array.length_toList, hw, List.length_append, List.length_cons]; omega
  refine forStr r.hh ha (fun a => a = L ∨ a = c0)
    (fun i h => i ≤ l.length ∧ ∃ m cl vs, h.Ns L m ∧ m "self" = some (.ref x) ∧ m "S" = some (.str " " 209) ∧ m "T" = some (.str "\t" 210) ∧ m "count" = some (.ref cl) ∧
      (∃ t, m "b" = some (.int (scan (l.take i)).b t)) ∧ (∃ t, m "n" = some (.int (scan (l.take i)).n t)) ∧ (∃ t, m "nt" = some (.int (scan (l.take i)).nt t)) ∧ h.IsList cl (List.toArray vs) ∧ IntsAre vs (scan (l.take i)).cs ∧ (cl = c0 ∨ h₁₀.objs.size < cl))
    (fun a e => e.elim (fun e => e ▸ hLt) (fun e => e ▸ hc0t)) (fun h' x' => ⟨Nat.zero_le _, _, _, [], n₁₀.keeps x', by simp only [ofString_inj]; rfl, by simp only [ofString_inj]; rfl, by simp only [ofString_inj]; rfl, by simp only [ofString_inj]; rfl, ⟨_, by simp only [ofString_inj]; rfl⟩, ⟨_, by simp only [ofString_inj]; rfl⟩, ⟨_, if_pos rfl⟩, (x'.lst l₁₀), .nil, .inl rfl⟩)
    (fun i h h' ⟨hi, m, cl, vs, z1, z2, z3, z4, z5, z6, z7, z8, z9, z10, z11⟩ x' => ⟨hi, m, cl, vs, z1.at' fun o e => x' _ o (Nat.ne_of_lt hLt) e, z2, z3, z4, z5, z6, z7, z8, ?_, z10, z11⟩)
    (fun i c tk h₁₁ t₁₁ E' hc ⟨hi, m, cl, vs, z1, z2, z3, z4, z5, ⟨t1, z6⟩, ⟨t2, z7⟩, ⟨t3, z8⟩, z9, z10, z11⟩ k₁₁ ⟨oI, hoI⟩ => ?_) fun h₁₁ t₁₁ ⟨hi, _⟩ _ => absurd hi (by omega)
  · obtain ⟨o, e, r'⟩ := z9
    exact ⟨o, x' _ _ (z11.elim (fun e => e ▸ Nat.ne_of_lt hc0t) (fun e => Nat.ne_of_gt e)) e, r'⟩
  · have p₁₁ : ExB (· = dx) hp h₁₁ := fun a o na e => k₁₁ a o (fun c => c.elim (hne e) (fun c => by rw [c, hcnone] at e; cases e)) (p₁₀ a o na e)
    have hclL : cl ≠ L := z11.elim (fun e => e ▸ (fun c => hcL c)) (fun e c => by rw [c] at e; exact Nat.lt_asymm e hLt)
    have hcdx' : cl ≠ dx := z11.elim (fun e => e ▸ hcdx) (fun e c => by rw [c] at e; exact Nat.lt_asymm e (Heap.lt_size d₁₀))
    have hoI : h₁₁.get? h₁₀.objs.size = some oI := hoI
    generalize hI : h₁₀.objs.size = I at *
    have hIL : I ≠ L := Nat.ne_of_gt hLt
    have cN := @ofString_inj
    refine asgN z1 fun h₁₂ n₁₂ k₁₂ => ?_
    have l₁₂ : h₁₂.IsList cl vs.toArray := by obtain ⟨o, e, r'⟩ := z9; exact ⟨o, k₁₂ _ _ hclL e, r'⟩
    refine wpAny_execs_cons ?_
    refine wpAny_If ?_
    refine wpAny_isTrue_Compare1 ?_
    refine nmL n₁₂ (if_pos rfl) ?_
    refine nmL n₁₂ (by simp only [ofString_inj]; exact z3) ?_
    refine eqS (trB ?_)
    rw [sgn_space]
    have hc' : ws.cps.toList[i]? = some c := by simpa using hc
    have htk : i < l.length → (l.take (i + 1)) = l.take i ++ [c] := fun hlt => by
      rw [hw, List.getElem?_append_left hlt] at hc'
      rw [List.take_add_one, hc']; rfl
    by_cases c32 : c = 32
    · have hlt : i < l.length := by
        rcases Nat.lt_or_ge i l.length with h | h
        · exact h
        · have e : i = l.length := by omega
          rw [hw, e, List.getElem?_append_right (Nat.le_refl _), Nat.sub_self] at hc'
          simp only [List.getElem?_cons_zero, Option.some.injEq] at hc'
          omega
      rw [decide_eq_true c32, if_pos rfl]
      refine wpAny_execs_cons (asgL ?_)
      refine wpAny_BinOp ?_
      refine nmL n₁₂ (by simp only [ofString_inj]; exact z7) ?_
      refine cInt (addI ⟨_, _, _, rfl, n₁₂, fun h₁₃ n₁₃ k₁₃ => ?_⟩)
      refine wpAny_execs_cons (asgL ?_)
      refine wpAny_BinOp ?_
      refine nmL n₁₃ (by simp only [ofString_inj]; exact z6) ?_
      refine cInt (addI ⟨_, _, _, rfl, n₁₃, fun h₁₄ n₁₄ k₁₄ => ?_⟩)
      refine wpAny_execs_nil (wpAny_execs_nil ⟨_, _, rfl, ?_, hlt, _, cl, vs, n₁₄, ?_⟩)
      · exact ((Kp.ofB k₁₂ fun a e => .inl (.inl e)).trans (Kp.ofB k₁₃ fun a e => .inl (.inl e))).trans (Kp.ofB k₁₄ fun a e => .inl (.inl e))
      · rw [htk hlt, scan_snoc, scStep, if_pos c32]
        refine ⟨by simp only [ofString_inj]; exact z2, by simp only [ofString_inj]; exact z3, by simp only [ofString_inj]; exact z4, by simp only [ofString_inj]; exact z5, ⟨_, if_pos rfl⟩, ⟨_, (if_neg (by rw [ofString_inj]; decide)).trans (if_pos rfl)⟩, ⟨_, by simp only [ofString_inj]; exact z8⟩, ?_, z10, z11⟩
        obtain ⟨o, e, r'⟩ := l₁₂
        exact ⟨o, k₁₄ _ _ hclL (k₁₃ _ _ hclL e), r'⟩
    rw [decide_eq_false c32, if_neg (by simp)]
    refine wpAny_execs_cons ?_
    refine wpAny_If ?_
    refine wpAny_isTrue_Compare1 ?_
    refine nmL n₁₂ (if_pos rfl) ?_
    refine nmL n₁₂ (by simp only [ofString_inj]; exact z4) ?_
    refine eqS (trB ?_)
    rw [sgn_tab]
    by_cases c9 : c = 9
    · have hlt : i < l.length := by
        rcases Nat.lt_or_ge i l.length with h | h
        · exact h
        · have e : i = l.length := by omega
          rw [hw, e, List.getElem?_append_right (Nat.le_refl _), Nat.sub_self] at hc'
          simp only [List.getElem?_cons_zero, Option.some.injEq] at hc'
          omega
      rw [decide_eq_true c9, if_pos rfl]
      have hsl := scan_len (l.take i)
      have htl : (l.take i).length ≤ 400 := by rw [List.length_take]; omega
      generalize hsc : scan (l.take i) = sc at *
      refine wpAny_execs_cons (asgL ?_)
      refine wpAny_BinOp ?_
      refine nmL n₁₂ (by simp only [ofString_inj]; exact z7) ?_
      refine cInt (addI ⟨_, _, _, rfl, n₁₂, fun h₁₃ n₁₃ k₁₃ => ?_⟩)
      refine wpAny_execs_cons (asgL ?_)
      refine wpAny_BinOp ?_
      refine nmL n₁₃ (by simp only [ofString_inj]; exact z8) ?_
      refine cInt (addI ⟨_, _, _, rfl, n₁₃, fun h₁₄ n₁₄ k₁₄ => ?_⟩)
      have l₁₄ : h₁₄.IsList cl vs.toArray := by obtain ⟨o, e, r'⟩ := l₁₂; exact ⟨o, k₁₄ _ _ hclL (k₁₃ _ _ hclL e), r'⟩
      have p₁₄ : ExB (· = dx) hp h₁₄ := fun a o na e => k₁₄ a o (hne e) (k₁₃ a o (hne e) (k₁₂ a o (hne e) (p₁₁ a o na e)))
      have hvl : vs.length = sc.cs.length := z10.length
      refine wpAny_execs_cons ?_
      refine wpAny_mono (Q := fun f s => f = .next ∧ ∃ h' t' m' cl' vs', s = St b h' t' ∧ h'.Ns L m' ∧ m' "self" = some (.ref x) ∧ m' "S" = some (.str " " 209) ∧ m' "T" = some (.str "\t" 210) ∧ m' "count" = some (.ref cl') ∧
        (∃ t, m' "b" = some (.int sc.b t)) ∧ (∃ t, m' "n" = some (.int (sc.n + 1) t)) ∧ (∃ t, m' "nt" = some (.int (sc.nt + 1) t)) ∧ h'.IsList cl' (List.toArray vs') ∧ IntsAre vs' (padTo sc.cs sc.b) ∧ (cl' = c0 ∨ I < cl') ∧ Kp (fun a => a = L ∨ a = c0) I h₁₄ h') ?_ (fun f s hf => ?_) fun _ _ x => x
      · refine wpAny_If ?_
        refine wpAny_isTrue_Compare1 ?_
        refine nmL n₁₄ (by simp only [ofString_inj]; exact z6) ?_
        refine Call_ ?_
        refine nmB G (kg p₁₄) ?_
        refine PyProof.Rows.callWith_builtin1 ?_
        refine args_cons ?_
        refine nmL n₁₄ (by simp only [ofString_inj]; exact z5) ?_
        refine args_nil ?_
        refine lenL l₁₄ (by rw [List.size_toArray]; omega) ?_
        rw [List.size_toArray, hvl]
        refine geI (trB ?_)
        by_cases cb : sc.b ≥ sc.cs.length
        · rw [decide_eq_true (show (sc.b : Int) ≥ (sc.cs.length : Int) by omega), if_pos rfl]
          refine wpAny_execs_cons (asgL ?_)
          refine wpAny_BinOp ?_
          refine nmL n₁₄ (by simp only [ofString_inj]; exact z5) ?_
          refine wpAny_BinOp ?_
          refine List_ ?_
          refine args_cons ?_
          refine cInt ?_
          refine args_nil ?_
          refine nList (Nat.le_of_ble_eq_true rfl) fun h₁₅ k₁₅ l₁₅ => ?_
          have n₁₅ := n₁₄.keeps k₁₅
          have p₁₅ : ExB (· = dx) hp h₁₅ := p₁₄.trans (k₁₅.but _)
          refine wpAny_BinOp ?_
          refine wpAny_BinOp ?_
          refine nmL n₁₅ (by simp only [ofString_inj]; exact z6) ?_
          refine Call_ ?_
          refine nmB G (kg p₁₅) ?_
          refine PyProof.Rows.callWith_builtin1 ?_
          refine args_cons ?_
          refine nmL n₁₅ (by simp only [ofString_inj]; exact z5) ?_
          refine args_nil ?_
          refine lenL (k₁₅.lst l₁₄) (by rw [List.size_toArray]; omega) ?_
          rw [List.size_toArray, hvl]
          refine subI (cInt (addI ?_))
          refine mulL l₁₅ (by omega) (by omega) (Nat.le_of_ble_eq_true rfl) fun h₁₆ k₁₆ l₁₆ => ?_
          have hI14 : h₁₄.get? I = some oI := k₁₄ _ _ hIL (k₁₃ _ _ hIL (k₁₂ _ _ hIL hoI))
          have hI16 : I < h₁₆.objs.size := Heap.lt_size (k₁₆ _ _ (k₁₅ _ _ hI14))
          refine addL ((k₁₆.lst (k₁₅.lst l₁₄))) l₁₆ (by rw [List.length_flatten, List.map_replicate, List.sum_replicate_nat]; simp only [List.length_cons, List.length_nil]; omega) fun h₁₇ k₁₇ l₁₇ => ?_
          refine ⟨_, _, _, rfl, (n₁₅.keeps k₁₆).keeps k₁₇, fun h₁₈ n₁₈ k₁₈ => wpAny_execs_nil ?_⟩
          have l₁₈ := LsB l₁₇ k₁₈ (fun c => by rw [c] at hI16; exact Nat.lt_asymm hI16 hLt)
          have e : ((sc.b : Int) - (sc.cs.length : Int) + 1).toNat = sc.b + 1 - sc.cs.length := by omega
          rw [e] at l₁₈
          exact ⟨rfl, _, _, _, _, _, rfl, n₁₈, by simp only [ofString_inj]; exact z2, by simp only [ofString_inj]; exact z3, by simp only [ofString_inj]; exact z4, if_pos rfl, ⟨_, by simp only [ofString_inj]; exact z6⟩, ⟨_, by simp only [ofString_inj]; rfl⟩, ⟨_, by simp only [ofString_inj]; rfl⟩,
            l₁₈, z10.append (ints_rep _ _), .inr hI16, (((Kp.ofEx k₁₅ _ _).trans (Kp.ofEx k₁₆ _ _)).trans (Kp.ofEx k₁₇ _ _)).trans (Kp.ofB k₁₈ fun a e => .inl (.inl e))⟩
        · rw [decide_eq_false (show ¬ (sc.b : Int) ≥ (sc.cs.length : Int) by omega), if_neg (by simp)]
          refine wpAny_execs_nil ⟨rfl, _, _, _, cl, vs, rfl, n₁₄, ?_⟩
          refine ⟨by simp only [ofString_inj]; exact z2, by simp only [ofString_inj]; exact z3, by simp only [ofString_inj]; exact z4, by simp only [ofString_inj]; exact z5, ⟨_, by simp only [ofString_inj]; exact z6⟩, ⟨_, by simp only [ofString_inj]; rfl⟩, ⟨_, by simp only [ofString_inj]; rfl⟩, l₁₄, ?_, z11, Kp.refl _ _ _⟩
          have e : sc.b + 1 - sc.cs.length = 0 := by omega
          unfold padTo
          rw [e, List.replicate_zero, List.append_nil]
          exact z10
      obtain ⟨rfl, h₁₅, t₁₅, m', cl', vs', rfl, y1, y2, y3, y4, y5, ⟨v1, y6⟩, ⟨v2, y7⟩, ⟨v3, y8⟩, y9, y10, y11, k₁₅⟩ := hf
      have hvl' : vs'.length = (padTo sc.cs sc.b).length := y10.length
      rw [padTo_len] at hvl'
      have hblt : sc.b < vs'.length := by omega
      have hcl'L : cl' ≠ L := y11.elim (fun e => e ▸ (fun c => hcL c)) (fun e c => by rw [c] at e; exact Nat.lt_asymm e hLt)
      obtain ⟨tv, hv⟩ := y10.int_at sc.b vs'[sc.b] (by simp [hblt])
      refine wpAny_execs_cons ?_
      refine wpAny_Assign_Subscript ?_
      refine wpAny_BinOp ?_
      refine Subscript_ ?_
      refine nmL y1 y5 ?_
      refine nmL y1 y6 ?_
      refine itemL y9 (by omega) (by omega) (x := .int ((padTo sc.cs sc.b).getD sc.b 0) tv) (by rw [← hv]; simp [hblt]) ?_
      refine cInt (addI ?_)
      refine nmL y1 y5 ?_
      refine nmL y1 y6 ?_
      refine setL y9 (by omega) (by rw [List.size_toArray]; omega) (by rw [List.size_toArray]; omega) fun h₁₆ l₁₆ k₁₆ => ?_
      have n₁₆ := y1.at' fun o e => k₁₆ _ o (Ne.symm hcl'L) e
      refine wpAny_execs_cons (asgL (cInt ⟨_, _, _, rfl, n₁₆, fun h₁₇ n₁₇ k₁₇ => ?_⟩))
      have l₁₇ := LsB l₁₆ k₁₇ hcl'L
      rw [show (sc.b : Int).toNat = sc.b from rfl, List.setIfInBounds_toArray] at l₁₇
      refine wpAny_execs_nil (wpAny_execs_nil (wpAny_execs_nil ⟨_, _, rfl, ?_, hlt, ?_⟩))
      · refine ((((Kp.ofB k₁₂ fun a e => .inl (.inl e)).trans (Kp.ofB k₁₃ fun a e => .inl (.inl e))).trans (Kp.ofB k₁₄ fun a e => .inl (.inl e))).trans ?_).trans ((Kp.ofB k₁₆ fun a e => ?_).trans (Kp.ofB k₁₇ fun a e => .inl (.inl e)))
        · exact hI.symm ▸ k₁₅
        · rw [e]
          exact y11.elim (fun c => .inl (.inr c)) (fun c => .inr (hI.symm ▸ c))
      · rw [htk hlt, scan_snoc, hsc, scStep, if_neg c32]
        exact ⟨_, cl', _, n₁₇, by simp only [ofString_inj]; exact y2, by simp only [ofString_inj]; exact y3, by simp only [ofString_inj]; exact y4, by simp only [ofString_inj]; exact y5, ⟨_, if_pos rfl⟩, ⟨_, by simp only [ofString_inj]; exact y7⟩, ⟨_, by simp only [ofString_inj]; exact y8⟩, l₁₇, ints_set y10 _ _ _, y11⟩
    · have hge : ¬ i < l.length := fun h => by
        rw [hw, List.getElem?_append_left h] at hc'
        rcases hl c (List.mem_of_getElem? hc') with e | e
        · exact c32 e
        · exact c9 e
      have e : i = l.length := by omega
      rw [decide_eq_false c9, if_neg (by simp)]
      refine wpAny_execs_cons ?_
      refine wpAny_Break ?_
      rw [e, List.take_length] at z6 z7 z8 z10
      have p₁₂ : ExB (· = dx) hp h₁₂ := fun a o na e => k₁₂ a o (hne e) (p₁₁ a o na e)
      have d₁₁ := k₁₁ _ _ (fun c => c.elim (fun c => hdL c.symm) (fun c => hcdx c.symm)) d₁₀
      have d₁₂ := k₁₂ _ _ (Ne.symm hdL) d₁₁
      have x₁₂ : h₁₂.get? x = some (wsObj dx) := p₁₂ _ _ (fun c => by rw [c, hd] at hx; cases hx) hx
      have hvl : vs.length = (scan l).cs.length := z10.length
      have hsl := scan_len l
      have hxd : x ≠ dx := fun c => by rw [c, hd] at hx; cases hx
      have hclx : cl ≠ x := fun c => by
        obtain ⟨o, e, e1, _⟩ := l₁₂
        rw [c, x₁₂] at e; cases e; cases e1
      -- self.n
      refine wpAny_execs_cons ?_
      refine plainObj_wpAny_Assign_Attribute ?_
      refine nmL n₁₂ (by simp only [ofString_inj]; exact z7) ?_
      refine nmL n₁₂ (by simp only [ofString_inj]; exact z2) ?_
      refine setD G (kg p₁₂) x₁₂ d₁₂ (by kernel_rfl) (Nat.le_of_ble_eq_true (by kernel_rfl)) fun h₁₃ t₁₃ s2 u2 d₁₃ k₁₃ => ?_
      have n₁₃ := n₁₂.at' fun o e => k₁₃ _ o hdL e
      have p₁₃ := p₁₂.trans k₁₃
      have x₁₃ := k₁₃ _ _ hxd x₁₂
      have l₁₃ := LsB l₁₂ k₁₃ hcdx'
      -- self.nt
      refine wpAny_execs_cons ?_
      refine plainObj_wpAny_Assign_Attribute ?_
      refine nmL n₁₃ (by simp only [ofString_inj]; exact z8) ?_
      refine nmL n₁₃ (by simp only [ofString_inj]; exact z2) ?_
      refine setD G (kg p₁₃) x₁₃ d₁₃ (by kernel_rfl) (Nat.le_of_ble_eq_true (by kernel_rfl)) fun h₁₄ t₁₄ s3 u3 d₁₄ k₁₄ => ?_
      have n₁₄ := n₁₃.at' fun o e => k₁₄ _ o hdL e
      have p₁₄ := p₁₃.trans k₁₄
      have x₁₄ := k₁₄ _ _ hxd x₁₃
      have l₁₄ := LsB l₁₃ k₁₄ hcdx'
      -- self.norm
      refine wpAny_execs_cons ?_
      refine plainObj_wpAny_Assign_Attribute ?_
      refine Tuple_ ?_
      refine args_cons ?_
      refine Call_ ?_
      refine nmB G (kg p₁₄) ?_
      refine PyProof.Rows.callWith_type1 ?_
      refine args_cons ?_
      refine nmL n₁₄ (by simp only [ofString_inj]; exact z5) ?_
      refine args_nil ?_
      refine tupL l₁₄ (by rw [List.size_toArray]; omega) fun C h₁₅ k₁₅ nC C₁₅ => ?_
      have n₁₅ := n₁₄.keeps k₁₅
      refine args_cons ?_
      refine nmL n₁₅ (by simp only [ofString_inj]; exact z6) ?_
      refine args_nil ?_
      refine nTuple (Nat.le_of_ble_eq_true rfl) fun h₁₆ k₁₆ T₁₆ => ?_
      have n₁₆ := n₁₅.keeps k₁₆
      have p₁₆ := (p₁₄.trans (k₁₅.but _)).trans (k₁₆.but _)
      have x₁₆ := k₁₆ _ _ (k₁₅ _ _ x₁₄)
      have d₁₆ := k₁₆ _ _ (k₁₅ _ _ d₁₄)
      have l₁₆ := (k₁₆.lst (k₁₅.lst l₁₄))
      have C₁₆ := (k₁₆.tup C₁₅)
      have hTdx : h₁₅.objs.size ≠ dx := fun c => by
        have := Heap.lt_size (k₁₅ _ _ d₁₄)
        rw [c] at this; exact Nat.lt_irrefl _ this
      have hCdx : C ≠ dx := fun c => by rw [c, d₁₄] at nC; cases nC
      refine nmL n₁₆ (by simp only [ofString_inj]; exact z2) ?_
      refine setD G (kg p₁₆) x₁₆ d₁₆ (by kernel_rfl) (Nat.le_of_ble_eq_true (by kernel_rfl)) fun h₁₇ t₁₇ s4 u4 d₁₇ k₁₇ => ?_
      have n₁₇ := n₁₆.at' fun o e => k₁₇ _ o hdL e
      have p₁₇ := p₁₆.trans k₁₇
      have x₁₇ := k₁₇ _ _ hxd x₁₆
      have l₁₇ := LsB l₁₆ k₁₇ hcdx'
      -- self.is_simple
      refine wpAny_execs_cons ?_
      refine plainObj_wpAny_Assign_Attribute ?_
      refine wpAny_Compare1 ?_
      refine Call_ ?_
      refine nmB G (kg p₁₇) ?_
      refine PyProof.Rows.callWith_builtin1 ?_
      refine args_cons ?_
      refine nmL n₁₇ (by simp only [ofString_inj]; exact z5) ?_
      refine args_nil ?_
      refine lenL l₁₇ (by rw [List.size_toArray]; omega) ?_
      refine cInt (leI ?_)
      rw [show decide ((vs.toArray.size : Int) ≤ 1) = decide ((scan l).cs.length ≤ 1) from by rw [List.size_toArray, hvl]; exact decide_eq_decide.mpr (by omega)]
      refine nmL n₁₇ (by simp only [ofString_inj]; exact z2) ?_
      refine setD G (kg p₁₇) x₁₇ d₁₇ (by kernel_rfl) (Nat.le_of_ble_eq_true (by kernel_rfl)) fun h₁₈ t₁₈ s5 u5 d₁₈ k₁₈ => ?_
      have p₁₈ := p₁₇.trans k₁₈
      refine wpAny_execs_nil ?_
      have hCn : hp.get? C = none := by
        cases e : hp.get? C with
        | none => rfl
        | some o => have := p₁₄ _ _ hCdx e; rw [nC] at this; cases this
      have hTn : hp.get? h₁₅.objs.size = none := by
        cases e : hp.get? h₁₅.objs.size with
        | none => rfl
        | some o => have := k₁₅ _ _ (p₁₄ _ _ hTdx e); rw [get_size] at this; cases this
      have T₁₈ := TpB (TpB T₁₆ k₁₇ hTdx) k₁₈ hTdx
      have C₁₈ := TpB (TpB C₁₆ k₁₇ hCdx) k₁₈ hCdx
      refine q h₁₈ _ p₁₈ fun h'' kk => ⟨dx, _, h₁₅.objs.size, C, vs, t1, t2, t3, kk _ _ (.inr (.inl rfl)) (k₁₈ _ _ hxd x₁₇), dictOf_Ns (kk _ _ (.inr (.inr rfl)) d₁₈) (by kernel_rfl), by kernel_rfl, by kernel_rfl, by kernel_rfl, by kernel_rfl, by kernel_rfl, by kernel_rfl, by kernel_rfl, by kernel_rfl, ?_, ?_, z10⟩
      · obtain ⟨o, e, r⟩ := T₁₈; exact ⟨o, kk _ _ (.inl hTn) e, r⟩
      · obtain ⟨o, e, r⟩ := C₁₈; exact ⟨o, kk _ _ (.inl hCn) e, r⟩
end
end
end Mine

namespace Mine
section
open PySem PySem.W PyProof.Rows PySem.SeqAt
section
variable {prog : Program} {w : World} {A : Around} {E : Value → Shared → Prop} {b : Shared} {hp : Heap} {t : Nat} {mg mb : Str → Option Value} {g : Heap}
theorem make_spec {Q : Value → Shared → Prop} (G : Gd w mg mb g) (k : Ex g hp) (kz : g.objs.size ≤ hp.objs.size) (r : Room A 30 70) {ws : Str} {tw : Tok} {l rest : List Nat}
    (ha : ws.cps.all (· < 128) = true) (hw : ws.cps.toList = l ++ 120 :: rest) (hl : ∀ c ∈ l, c = 32 ∨ c = 9) (hz : l.length ≤ 400)
    (q : ∀ x h' tk, Ex hp h' → hp.get? x = none → (∀ h'', (∀ a o, hp.get? a = none → h'.get? a = some o → h''.get? a = some o) → Ws h'' x (scan l).cs (scan l).b (scan l).n (scan l).nt) → Q (.ref x) (St b h' tk)) :
    wpAny (model prog w) A (call (.ref 83) [.str ws tw]) Q E (St b hp t) := by
  refine wpAny_call (make_core (h := hp) (t := t) (makes_of (G.X.keeps k) (by kernel_rfl)) (looks_findIn (G.X.keeps k) (r := some (.ref 38)) (by kernel_rfl)) (fun self => bind_fn (G.X.keeps k) self (by kernel_rfl)) (.inl rfl) ?_)
  have k1 : Ex hp (hp.push emptyDict) := Ex.push _ _
  have k2 : Ex (hp.push emptyDict) ((hp.push emptyDict).push (instObj 83 hp.objs.size)) := Ex.push _ _
  have hs : (hp.push emptyDict).objs.size = hp.objs.size + 1 := Heap.size_push ..
  have hx : ((hp.push emptyDict).push (instObj 83 hp.objs.size)).get? (hp.objs.size + 1) = some (wsObj hp.objs.size) := by
    have := Heap.get?_push_size (o := instObj 83 hp.objs.size) (hp.push emptyDict) rfl
    rw [hs] at this; exact this
  have hd : ((hp.push emptyDict).push (instObj 83 hp.objs.size)).get? hp.objs.size = some (dictOf [] 0) := k2 _ _ (Heap.get?_push_size _ rfl)
  refine init_spec (b := b) (t := t) G (k.trans (k1.trans k2)) ?_ hx hd (Heap.get?_none_of_le kz) ha hw hl hz fun h' tk k' W => ?_
  · refine ⟨r.hh, ?_, ?_⟩
    · have := r.dp
      show A.depth + 1 + 20 < _
      omega
    · have := r.un
      show A.units + 1 + 60 < _
      omega
  · refine ⟨rfl, ?_⟩
    refine q _ _ _ (fun a o e => k' a o (fun c => ?_) (k2 _ _ (k1 _ _ e))) (Heap.get?_none_of_le (Nat.le_succ _)) (fun h'' kk => W h'' fun a o c e => kk a o ?_ e)
    · have := Heap.lt_size e
      rw [c] at this; exact Nat.lt_irrefl _ this
    · rcases c with c | c | c
      · cases e2 : hp.get? a with
        | none => rfl
        | some o' => rw [k2 _ _ (k1 _ _ e2)] at c; cases c
      · rw [c]; exact Heap.get?_none_of_le (Nat.le_succ _)
      · rw [c]; exact get_size _
end
end
end Mine

namespace Mine
section
open PySem PySem.W PyProof.Rows PySem.SeqAt
section
variable {prog : Program} {w : World} {A : Around} {E : Value → Shared → Prop} {env cenv : Env} {b : Shared} {h hS : Heap} {t : Nat} {mg mb : Str → Option Value} {g : Heap}

/-- a comprehension's turns, over any source that walks. I: the iterator, I + 1: what is built -/
theorem compG {elt target iter : Expr} {ifs : List Expr} {scope : Scope} {pos : Pos} {fp : List Addr} {n : Nat} {P : Nat → Value → Prop} {S : Nat → Heap → Prop} {R : Result → Shared → Prop} {m₀ : Str → Option Value} (M : Addr → Prop) (J : Nat → Heap → List Value → Prop)
    (W : Walks prog w A h.objs.size fp [h.objs.size] n P S) (hsz : n ≤ 1000000) (hlive : ∀ i h', S i h' → ∃ o, h'.get? h.objs.size = some o) (hfp : ∀ a ∈ fp, a ≤ h.objs.size ∧ ¬ M a) (hM : ∀ a, M a → a < h.objs.size) (hS0 : S 0 hS) (hx : Ex h hS)
    (hD : hS.IsList (h.objs.size + 1) #[]) (hC : hS.Ns cenv.locals m₀) (hCD : h.objs.size + 1 < cenv.locals) (h0 : J 0 hS [])
    (mono : ∀ i h₀ h₁ ys, J i h₀ ys → ExB (fun a => h.objs.size ≤ a ∧ a ≤ h.objs.size + 2) h₀ h₁ → J i h₁ ys)
    (step : ∀ i v h₁ t₁ ys m₁ (E' : Value → Shared → Prop), i < n → P i v → J i h₁ ys → ExB M h h₁ → h₁.Ns cenv.locals m₁ → (∃ o, h₁.get? h.objs.size = some o) ∧ (∃ o, h₁.get? (h.objs.size + 1) = some o) →
      wpAny (model prog w) A (assign target cenv v) (fun _ s₂ =>
        wpAny (model prog w) A (forIn ifs true fun c r => if r = true then do let ok ← isTrue c cenv (eval c cenv); pure (ForInStep.yield ok) else pure (ForInStep.yield r)) (fun ok s₃ =>
          if ok = true then wpAny (model prog w) A (eval elt cenv) (fun y s₄ => ∃ h₄ t₄ m₄, s₄ = St b h₄ t₄ ∧ Kp M (h.objs.size + 1) h₁ h₄ ∧ h₄.Ns cenv.locals m₄ ∧ J (i + 1) h₄ (ys ++ [y])) E' s₃
          else ∃ h₄ t₄ m₄, s₃ = St b h₄ t₄ ∧ Kp M (h.objs.size + 1) h₁ h₄ ∧ h₄.Ns cenv.locals m₄ ∧ J (i + 1) h₄ ys) E' s₂) E' (St b h₁ t₁))
    (done : ∀ h₁ t₁ ys m₁, J n h₁ ys → ys.length ≤ n → ExB M h h₁ → h₁.IsList (h.objs.size + 1) ys.toArray → h₁.Ns cenv.locals m₁ → R (.ok .next) (St b h₁ t₁))
    (ht : ∀ v, letOwnedTupleGo target (.ref h.objs.size) v = pure () := by intro _; rfl) :
    codeAny (model prog w) A (.compStart (.ListComp elt [⟨target, iter, ifs, 0⟩] scope pos) 0 (.ref h.objs.size) (.ref (h.objs.size + 1)) cenv) R (St b hS t) := by
  have hC1 : cenv.locals ≠ h.objs.size := Nat.ne_of_gt (Nat.lt_of_succ_lt hCD)
  have hC2 : cenv.locals ≠ h.objs.size + 1 := Nat.ne_of_gt hCD
  have hle : ∀ {a : Addr}, a ≤ h.objs.size → a ≠ h.objs.size + 1 := fun q => Nat.ne_of_lt (Nat.lt_succ_of_le q)
  have hne : ∀ {a : Addr} {o : Obj}, h.get? a = some o → a < h.objs.size := fun e => Heap.lt_size e
  have loop : codeAny (model prog w) A (.compLoop (.ListComp elt [⟨target, iter, ifs, 0⟩] scope pos) 0 (.ref h.objs.size) (.ref (h.objs.size + 1)) cenv) R (St b hS t) := by
    refine codeAny_compLoop_tests (fun k s' => ∃ i h' t' ys m', i ≤ n ∧ k = n - i ∧ s' = St b h' t' ∧ S i h' ∧ ExB M h h' ∧ h'.IsList (h.objs.size + 1) (List.toArray ys) ∧ ys.length ≤ i ∧ h'.Ns cenv.locals m' ∧ J i h' ys) ?_ n
      ⟨0, hS, t, [], m₀, Nat.zero_le _, rfl, rfl, hS0, hx.but M, hD, Nat.le_refl _, hC, h0⟩ ht
    rintro k s' ⟨i, h', t', ys, m', hi, rfl, rfl, hs, hk', hl, hyl, hn, hj⟩
    by_cases hlt : i < n
    · refine W.item i _ _ _ hlt hs fun v h₁ tk₁ hP hSt hk => ?_
      have k1 : ExB (· = h.objs.size) h' h₁ := fun a o nb e => hk a o (fun q => nb (List.mem_singleton.mp q)) e
      have k2 : ExB M h h₁ := fun a o na e => k1 a o (Nat.ne_of_lt (hne e)) (hk' a o na e)
      have l1 := LsB hl k1 (Nat.succ_ne_self _)
      have n1 : h₁.Ns cenv.locals m' := hn.at' fun o e => k1 _ o hC1 e
      refine wpAny_mono (step i v h₁ tk₁ ys m' _ hlt hP (mono i h' h₁ ys hj (fun a o na e => k1 a o (fun c => na (by rw [c]; exact ⟨Nat.le_refl _, Nat.le_add_right _ _⟩)) e)) k2 n1 ⟨hlive _ _ hSt, by obtain ⟨o, e, _⟩ := l1; exact ⟨o, e⟩⟩) (fun _ s₂ h₂ => wpAny_mono h₂ (fun ok s₃ h₃ => ?_) fun _ _ x => x) fun _ _ x => x
      cases ok with
      | true =>
        simp only [if_true] at h₃ ⊢
        refine wpAny_mono h₃ (fun y s₄ h₄ => ?_) fun _ _ x => x
        obtain ⟨h₄, t₄, m₄, rfl, k4, n4, j4⟩ := h₄
        have l4 : h₄.IsList (h.objs.size + 1) (List.toArray ys) := by
          obtain ⟨o, e, r⟩ := l1
          exact ⟨o, k4 _ o (fun q => Nat.lt_asymm (hM _ q) (Nat.lt_succ_self _)) (Nat.le_refl _) e, r⟩
        refine wpAny_list_append l4 (fun h₅ l5 hs5 => ?_) (sz24 (by rw [List.size_toArray]; omega))
        have k5 : ExB (· = h.objs.size + 1) h₄ h₅ := fun a o na e => hs5.extBut a o na e
        refine ⟨n - (i + 1), by omega, i + 1, h₅, t₄, ys ++ [y], m₄, hlt, rfl, rfl, ?_, ?_, by simpa using l5, by rw [List.length_append]; simp; omega, n4.at' fun o e => k5 _ o hC2 e, mono _ _ _ _ j4 (fun a o na e => k5 a o (fun c => na (by rw [c]; exact ⟨Nat.le_add_right _ _, Nat.le_succ _⟩)) e)⟩
        · exact W.frame _ _ _ hSt fun a ha o e => k5 a o (hle (hfp a ha).1) (k4 a o (hfp a ha).2 (Nat.le_succ_of_le (hfp a ha).1) e)
        · exact fun a o na e => k5 a o (hle (Nat.le_of_lt (hne e))) (k4 a o na (Nat.le_succ_of_le (Nat.le_of_lt (hne e))) (k2 a o na e))
      | false =>
        simp only [Bool.false_eq_true, if_false] at h₃ ⊢
        obtain ⟨h₄, t₄, m₄, rfl, k4, n4, j4⟩ := h₃
        have l4 : h₄.IsList (h.objs.size + 1) (List.toArray ys) := by
          obtain ⟨o, e, r⟩ := l1
          exact ⟨o, k4 _ o (fun q => Nat.lt_asymm (hM _ q) (Nat.lt_succ_self _)) (Nat.le_refl _) e, r⟩
        refine ⟨n - (i + 1), by omega, i + 1, h₄, t₄, ys, m₄, hlt, rfl, rfl, ?_, ?_, l4, by omega, n4, j4⟩
        · exact W.frame _ _ _ hSt fun a ha o e => k4 a o (hfp a ha).2 (Nat.le_succ_of_le (hfp a ha).1) e
        · exact fun a o na e => k4 a o na (Nat.le_succ_of_le (Nat.le_of_lt (hne e))) (k2 a o na e)
    · obtain rfl : i = n := by omega
      refine W.done _ _ _ hs fun h₁ tk₁ hk => ?_
      have k1 : ExB (· = h.objs.size) h' h₁ := fun a o nb e => hk a o (fun q => nb (List.mem_singleton.mp q)) e
      exact done h₁ tk₁ ys m' (mono _ h' h₁ ys hj (fun a o na e => k1 a o (fun c => na (by rw [c]; exact ⟨Nat.le_refl _, Nat.le_add_right _ _⟩)) e)) hyl (fun a o na e => k1 a o (Nat.ne_of_lt (hne e)) (hk' a o na e)) (LsB hl k1 (Nat.succ_ne_self _)) (hn.at' fun o e => k1 _ o hC1 e)
  exact codeAny_compStart_list loop (W.self 0 _ _ _ hS0 loop)

/-- what is wanted behind a comprehension's source -/
def CompQ (prog : Program) (w : World) (A : Around) (b : Shared) (env : Env) (scope : Scope) (cl : List (Str × Addr)) (elt target : Expr) (ifs : List Expr) (Q : Value → Addr → Heap → Nat → Prop) (xv : Value) (s₁ : Shared) : Prop :=
  ∃ (h : Heap) (t n : Nat) (P : Nat → Value → Prop) (S : Nat → Heap → Prop) (fp : List Addr) (M : Addr → Prop) (J : Nat → Heap → List Value → Prop), s₁ = St b h t ∧
    (∀ (Q' : Value → Shared → Prop) (E' : Value → Shared → Prop), (∀ hI, Ex h hI → hI.objs.size = h.objs.size + 1 → S 0 hI → Q' (.ref h.objs.size) (St b hI t)) → wpAny (model prog w) A (pyIter xv) Q' E' (St b h t)) ∧
    Walks prog w A h.objs.size fp [h.objs.size] n P S ∧ n ≤ 1000000 ∧ (∀ i h', S i h' → ∃ o, h'.get? h.objs.size = some o) ∧ (∀ a ∈ fp, a ≤ h.objs.size ∧ ¬ M a) ∧ (∀ a, M a → a < h.objs.size) ∧ (∀ h', Ex h h' → J 0 h' []) ∧
    (∀ i h₀ h₁ ys, J i h₀ ys → ExB (fun a => h.objs.size ≤ a ∧ a ≤ h.objs.size + 2) h₀ h₁ → J i h₁ ys) ∧
    (∀ i v h₁ t₁ ys m₁ (E' : Value → Shared → Prop), i < n → P i v → J i h₁ ys → ExB M h h₁ → h₁.Ns (h.objs.size + 2) m₁ → (∃ o, h₁.get? h.objs.size = some o) ∧ (∃ o, h₁.get? (h.objs.size + 1) = some o) →
      wpAny (model prog w) A (assign target (compEnvC scope cl (h.objs.size + 2) env) v) (fun _ s₂ =>
        wpAny (model prog w) A (forIn ifs true fun c r => if r = true then do let ok ← isTrue c (compEnvC scope cl (h.objs.size + 2) env) (eval c (compEnvC scope cl (h.objs.size + 2) env)); pure (ForInStep.yield ok) else pure (ForInStep.yield r)) (fun ok s₃ =>
          if ok = true then wpAny (model prog w) A (eval elt (compEnvC scope cl (h.objs.size + 2) env)) (fun y s₄ => ∃ h₄ t₄ m₄, s₄ = St b h₄ t₄ ∧ Kp M (h.objs.size + 1) h₁ h₄ ∧ h₄.Ns (h.objs.size + 2) m₄ ∧ J (i + 1) h₄ (ys ++ [y])) E' s₃
          else ∃ h₄ t₄ m₄, s₃ = St b h₄ t₄ ∧ Kp M (h.objs.size + 1) h₁ h₄ ∧ h₄.Ns (h.objs.size + 2) m₄ ∧ J (i + 1) h₄ ys) E' s₂) E' (St b h₁ t₁)) ∧
    (∀ h₁ t₁ ys, J n h₁ ys → ys.length ≤ n → ExB M h h₁ → h₁.IsList (h.objs.size + 1) ys.toArray → Q (.ref (h.objs.size + 1)) (h.objs.size + 2) h₁ t₁)

theorem compBlock {elt target iter : Expr} {ifs : List Expr} {scope : Scope} {cl : List (Str × Addr)} {pos : Pos} {Q : Value → Addr → Heap → Nat → Prop} {RR : Value → Addr → Result → Shared → Prop} {xv : Value} {s₁ : Shared}
    (hcell : (scope.names.all fun x => decide (x.2 ≠ .cell)) = true) (hkind : scope.kind = .function) (q : CompQ prog w A b env scope cl elt target ifs Q xv s₁)
    (ht : ∀ I v, letOwnedTupleGo target (.ref I) v = pure ())
    (hR : ∀ C D h₁ t₁ m₁, h₁.Ns C m₁ → D ≠ C → (∃ o, h₁.get? D = some o) → Q (.ref D) C h₁ t₁ → RR (.ref D) C (.ok .next) (St b h₁ t₁)) :
    wpAny (model prog w) A (pyIter xv) (fun it s₂ => wpAny (model prog w) A (newList []) (fun acc s₃ => wpAny (model prog w) A (newFunctionEnv scope env.globals cl [] env.qual none .none (some env)) (fun cenv s₄ =>
      codeAny (model prog w) A (.compStart (.ListComp elt [⟨target, iter, ifs, 0⟩] scope pos) 0 it acc { cenv with scope := relabel scope env }) (RR acc cenv.locals) s₄) E s₃) E s₂) E s₁ := by
  obtain ⟨h, t, n, P, S, fp, M, J, rfl, hpy, W, hsz, hlive, hfp, hM, h0, mono, step, done⟩ := q
  refine hpy _ _ fun hI kI szI S0 => ?_
  refine wpAny_newObj_type ?_ (by show _ ≤ sizeLine; exact sz24 (Nat.zero_le _))
  refine wpAny_newFunctionEnv (fun x hx => of_decide_eq_true (List.all_eq_true.mp hcell x hx)) (by intro y hy; simp at hy) (fun h₃ n₃ s₃ => ?_) hkind
  dsimp only at n₃ s₃ ⊢
  generalize hH : hI.push { cls := .type "list", data := .seq ([] : List Value).toArray } = H at n₃ s₃ ⊢
  have hHs : H.objs.size = h.objs.size + 2 := by rw [← hH, Heap.size_push, szI]
  have kH : Ex hI H := hH ▸ Ex.push _ _
  have k3 : Ex H h₃ := fun a o e => s₃.extBut a o (Nat.ne_of_lt (Heap.lt_size e)) (Heap.get?_push_of_some _ e)
  have k3' : Ex h h₃ := kI.trans (kH.trans k3)
  have lD : h₃.IsList (h.objs.size + 1) #[] := by
    have : H.IsList hI.objs.size #[] := hH ▸ push_list _ _
    rw [szI] at this
    exact (k3.lst this)
  rw [hHs] at n₃ ⊢
  rw [szI]
  refine compG (h := h) (b := b) (cenv := compEnvC scope cl (h.objs.size + 2) env) M J W hsz hlive hfp hM (W.frame 0 _ _ S0 fun a _ o e => k3 a o (kH a o e)) k3' lD n₃ (Nat.lt_succ_self _) (h0 _ k3') mono
    (fun i v h₁ t₁ ys m₁ E' hi hP hJ k hn hx => step i v h₁ t₁ ys m₁ E' hi hP hJ k hn hx) (fun h₁ t₁ ys m₁ hJ hy k hl hn => ?_) (ht _)
  have hDC : (h.objs.size + 1 : Nat) ≠ h.objs.size + 2 := Nat.ne_of_lt (Nat.lt_succ_self _)
  exact hR _ _ h₁ t₁ m₁ hn hDC (by obtain ⟨o, e, _⟩ := hl; exact ⟨o, e⟩) (done h₁ t₁ ys hJ hy k hl)

theorem compE {elt target iter : Expr} {ifs : List Expr} {scope : Scope} {cl : List (Str × Addr)} {pos : Pos} {Q : Value → Shared → Prop} {s : Shared}
    (q : wpAny (model prog w) A (eval iter env) (CompQ prog w A b env scope cl elt target ifs (fun v C h t => ∀ h', ExB (· = C) h h' → Q v (St b h' t))) E s)
    (hclos : closureFor scope env = pure cl := by rfl) (hcell : (scope.names.all fun x => decide (x.2 ≠ .cell)) = true := by rfl) (hkind : scope.kind = .function := by rfl)
    (hnames : (scope.names.all fun x => decide (x.2 = .local → scope.names.lookup x.1 = some .local)) = true := by rfl) (hs : ∀ x, foldedSetIterable iter env x = pure x := by intro _; rfl) (ht : ∀ I v, letOwnedTupleGo target (.ref I) v = pure () := by intro _ _; rfl) :
    wpAny (model prog w) A (eval (.ListComp elt [⟨target, iter, ifs, 0⟩] scope pos) env) Q E s := by
  rw [eval_ListComp]
  refine wpAny_comprehension_free (use := none) rfl hs hclos hkind (fun x hx => of_decide_eq_true (List.all_eq_true.mp hnames x hx)) (wpAny_mono q (fun xv s₁ q₁ => ?_) fun _ _ x => x)
  refine compBlock hcell hkind q₁ ht fun C D h₁ t₁ m₁ hn _ _ q₂ => ?_
  exact ⟨m₁, hn, fun h' hs' => q₂ h' fun a o na e => hs'.extBut a o na e⟩

/-- a name is bound to a comprehension: the source, the block, and behind it the name's own storing -/
theorem asgComp {elt target iter : Expr} {ifs : List Expr} {scope : Scope} {cl : List (Str × Addr)} {x : Str} {px pos spos : Pos} {Q : Flow → Shared → Prop} {s : Shared}
    (hsw : swapsWith (.ListComp elt [⟨target, iter, ifs, 0⟩] scope pos) (some (.Name x px)) spos.line env = pure true) (hclos : closureFor scope env = pure cl) (hkind : scope.kind = .function)
    (hnames : (scope.names.all fun x => decide (x.2 = .local → scope.names.lookup x.1 = some .local)) = true) (hs : ∀ x, foldedSetIterable iter env x = pure x)
    (q : wpAny (model prog w) A (eval iter env) (fun v s₁ => wpAny (model prog w) A (pyIter v) (fun it s₂ => wpAny (model prog w) A (newList []) (fun acc s₃ => wpAny (model prog w) A (newFunctionEnv scope env.globals cl [] env.qual none .none (some env)) (fun inner s₄ =>
      codeAny (model prog w) A (.compStart (.ListComp elt [⟨target, iter, ifs, 0⟩] scope pos) 0 it acc { inner with scope := relabel scope env }) (compPost (model prog w) A E (some (assign (.Name x px) env)) (fun _ s' => Q .next s') acc inner.locals) s₄) E s₃) E s₂) E s₁) E s) :
    wpAny (model prog w) A (exec (.Assign [.Name x px] (.ListComp elt [⟨target, iter, ifs, 0⟩] scope pos) spos) env) Q E s := by
  have named : ∀ y ∈ scope.names, y.2 = .local → scope.names.lookup y.1 = some .local := fun y hy => of_decide_eq_true (List.all_eq_true.mp hnames y hy)
  have whole := fun p => wpAny_comprehension_free (e := .ListComp elt [⟨target, iter, ifs, 0⟩] scope pos) (pos := p) (g := ⟨target, iter, ifs, 0⟩) (gs := []) (use := some (assign (.Name x px) env)) (Q := fun _ s' => Q .next s') rfl hs hclos hkind named q
  rw [exec_Assign_Name_used x px _ spos hsw]
  exact wpAny_bind (wpAny_standAt (wpAny_bind (wpAny_bind (wpAny_mono (whole _) (fun _ _ z => wpAny_pure (wpAny_pure z)) fun _ _ z => z))))
/-- the block's end: the list is bound to the name -/
theorem bindEnd {x : Str} {px : Pos} {C D : Addr} {h₁ : Heap} {t₁ : Nat} {m₁ : Str → Option Value} {Q : Flow → Shared → Prop} (hC : h₁.Ns C m₁)
    (z : env.locals ≠ C ∧ ∃ m, h₁.Ns env.locals m ∧ ∀ h', h'.Ns env.locals (fun y => if y = x then some (.ref D) else m y) → ExB (fun a => a = env.locals ∨ a = C) h₁ h' → Q .next (St b h' (t₁ + 1)))
    (hx : env.kindOf x = some .local) (hk : env.scope.kind = .function) :
    compPost (model prog w) A E (some (assign (.Name x px) env)) (fun _ s' => Q .next s') (.ref D) C (.ok .next) (St b h₁ t₁) := by
  obtain ⟨ne, m, nL, fin⟩ := z
  refine asgN nL (fun h₂ n₂ k₂ => ?_) hk hx
  have hC₂ : h₂.Ns C m₁ := hC.at' fun o e => k₂ C o (Ne.symm ne) e
  refine ⟨m₁, hC₂, fun h' k => fin h' (n₂.at' fun o e => k.extBut _ o ne e) fun a o na e => ?_⟩
  rw [not_or] at na
  exact k.extBut a o na.2 (k₂ a o na.1 e)

theorem compA {elt target iter : Expr} {ifs : List Expr} {scope : Scope} {cl : List (Str × Addr)} {x : Str} {px pos spos : Pos} {Q : Flow → Shared → Prop} {s : Shared}
    (q : wpAny (model prog w) A (eval iter env) (CompQ prog w A b env scope cl elt target ifs (fun v C h t => env.locals ≠ C ∧ ∃ m, h.Ns env.locals m ∧ ∀ h', h'.Ns env.locals (fun y => if y = x then some v else m y) → ExB (fun a => a = env.locals ∨ a = C) h h' → Q .next (St b h' (t + 1)))) E s)
    (hsw : swapsWith (.ListComp elt [⟨target, iter, ifs, 0⟩] scope pos) (some (.Name x px)) spos.line env = pure true := by rfl)
    (hx : env.kindOf x = some .local := by with_unfolding_all rfl) (hk : env.scope.kind = .function := by rfl)
    (hclos : closureFor scope env = pure cl := by rfl) (hcell : (scope.names.all fun x => decide (x.2 ≠ .cell)) = true := by rfl) (hkind : scope.kind = .function := by rfl)
    (hnames : (scope.names.all fun x => decide (x.2 = .local → scope.names.lookup x.1 = some .local)) = true := by rfl) (hs : ∀ x, foldedSetIterable iter env x = pure x := by intro _; rfl) (ht : ∀ I v, letOwnedTupleGo target (.ref I) v = pure () := by intro _ _; rfl) :
    wpAny (model prog w) A (exec (.Assign [.Name x px] (.ListComp elt [⟨target, iter, ifs, 0⟩] scope pos) spos) env) Q E s := by
  exact asgComp hsw hclos hkind hnames hs (wpAny_mono q (fun _ _ src => compBlock hcell hkind src ht fun _ _ _ _ _ hC _ _ z => bindEnd hC z hx hk) fun _ _ z => z)

theorem CompQ.list {scope : Scope} {cl : List (Str × Addr)} {elt target : Expr} {ifs : List Expr} {Q : Value → Addr → Heap → Nat → Prop} {l : Addr} {its : Array Value} (hh : A.handled = none) (hl : h.IsList l its) (hz : its.size ≤ 1000000) (M : Addr → Prop) (J : Nat → Heap → List Value → Prop)
    (hM : ∀ a, M a → a < h.objs.size) (hlM : ¬ M l) (h0 : ∀ h', Ex h h' → J 0 h' []) (mono : ∀ i h₀ h₁ ys, J i h₀ ys → ExB (fun a => h.objs.size ≤ a ∧ a ≤ h.objs.size + 2) h₀ h₁ → J i h₁ ys)
    (step : ∀ i v h₁ t₁ ys m₁ (E' : Value → Shared → Prop), its[i]? = some v → J i h₁ ys → ExB M h h₁ → h₁.Ns (h.objs.size + 2) m₁ → (∃ o, h₁.get? h.objs.size = some o) ∧ (∃ o, h₁.get? (h.objs.size + 1) = some o) →
      wpAny (model prog w) A (assign target (compEnvC scope cl (h.objs.size + 2) env) v) (fun _ s₂ =>
        wpAny (model prog w) A (forIn ifs true fun c r => if r = true then do let ok ← isTrue c (compEnvC scope cl (h.objs.size + 2) env) (eval c (compEnvC scope cl (h.objs.size + 2) env)); pure (ForInStep.yield ok) else pure (ForInStep.yield r)) (fun ok s₃ =>
          if ok = true then wpAny (model prog w) A (eval elt (compEnvC scope cl (h.objs.size + 2) env)) (fun y s₄ => ∃ h₄ t₄ m₄, s₄ = St b h₄ t₄ ∧ Kp M (h.objs.size + 1) h₁ h₄ ∧ h₄.Ns (h.objs.size + 2) m₄ ∧ J (i + 1) h₄ (ys ++ [y])) E' s₃
          else ∃ h₄ t₄ m₄, s₃ = St b h₄ t₄ ∧ Kp M (h.objs.size + 1) h₁ h₄ ∧ h₄.Ns (h.objs.size + 2) m₄ ∧ J (i + 1) h₄ ys) E' s₂) E' (St b h₁ t₁))
    (done : ∀ h₁ t₁ ys, J its.size h₁ ys → ys.length ≤ its.size → ExB M h h₁ → h₁.IsList (h.objs.size + 1) ys.toArray → Q (.ref (h.objs.size + 1)) (h.objs.size + 2) h₁ t₁) :
    CompQ prog w A b env scope cl elt target ifs Q (.ref l) (St b h t) := by
  have hne : l ≠ h.objs.size := by obtain ⟨o, e, _⟩ := hl; exact Nat.ne_of_lt (Heap.lt_size e)
  have hlt : l < h.objs.size := by obtain ⟨o, e, _⟩ := hl; exact Heap.lt_size e
  refine ⟨h, t, its.size, _, _, [h.objs.size, l], M, J, rfl, fun Q' E' q => wpAny_pyIter_list hl (q _ (Ex.push _ _) (Heap.size_push ..) ⟨⟨_, Heap.get?_push_size _ rfl, rfl, rfl⟩, hl.push _⟩), Walks.list hh _ _ hne its, hz, fun i h' hs => (let ⟨o, e, _⟩ := hs.1; ⟨o, e⟩), fun a ha => ?_, hM, h0, mono, fun i v h₁ t₁ ys m₁ E' _ hv => step i v h₁ t₁ ys m₁ E' hv, done⟩
  rcases List.mem_cons.mp ha with rfl | ha
  · exact ⟨Nat.le_refl _, fun q => Nat.lt_irrefl _ (hM _ q)⟩
  · rw [List.mem_singleton.mp ha]; exact ⟨Nat.le_of_lt hlt, hlM⟩

theorem CompQ.range {scope : Scope} {cl : List (Str × Addr)} {elt target : Expr} {ifs : List Expr} {Q : Value → Addr → Heap → Nat → Prop} {r : Addr} {lo hi : Int} {t1 t2 t3 : Tok} {n : Nat} (hh : A.handled = none) (hr : IsRange h r lo hi 1 t1 t2 t3) (hlo : -1000000 ≤ lo) (hlo' : lo ≤ 1000000) (hhi : -1000000 ≤ hi) (hhi' : hi ≤ 1000000) (hn : (n : Int) = if lo < hi then hi - lo else 0) (hz : n ≤ 1000000)
    (M : Addr → Prop) (J : Nat → Heap → List Value → Prop)
    (hM : ∀ a, M a → a < h.objs.size) (h0 : ∀ h', Ex h h' → J 0 h' []) (mono : ∀ i h₀ h₁ ys, J i h₀ ys → ExB (fun a => h.objs.size ≤ a ∧ a ≤ h.objs.size + 2) h₀ h₁ → J i h₁ ys)
    (step : ∀ i tk h₁ t₁ ys m₁ (E' : Value → Shared → Prop), i < n → J i h₁ ys → ExB M h h₁ → h₁.Ns (h.objs.size + 2) m₁ → (∃ o, h₁.get? h.objs.size = some o) ∧ (∃ o, h₁.get? (h.objs.size + 1) = some o) →
      wpAny (model prog w) A (assign target (compEnvC scope cl (h.objs.size + 2) env) (.int (lo + (i : Int)) tk)) (fun _ s₂ =>
        wpAny (model prog w) A (forIn ifs true fun c r => if r = true then do let ok ← isTrue c (compEnvC scope cl (h.objs.size + 2) env) (eval c (compEnvC scope cl (h.objs.size + 2) env)); pure (ForInStep.yield ok) else pure (ForInStep.yield r)) (fun ok s₃ =>
          if ok = true then wpAny (model prog w) A (eval elt (compEnvC scope cl (h.objs.size + 2) env)) (fun y s₄ => ∃ h₄ t₄ m₄, s₄ = St b h₄ t₄ ∧ Kp M (h.objs.size + 1) h₁ h₄ ∧ h₄.Ns (h.objs.size + 2) m₄ ∧ J (i + 1) h₄ (ys ++ [y])) E' s₃
          else ∃ h₄ t₄ m₄, s₃ = St b h₄ t₄ ∧ Kp M (h.objs.size + 1) h₁ h₄ ∧ h₄.Ns (h.objs.size + 2) m₄ ∧ J (i + 1) h₄ ys) E' s₂) E' (St b h₁ t₁))
    (done : ∀ h₁ t₁ ys, J n h₁ ys → ys.length ≤ n → ExB M h h₁ → h₁.IsList (h.objs.size + 1) ys.toArray → Q (.ref (h.objs.size + 1)) (h.objs.size + 2) h₁ t₁) :
    CompQ prog w A b env scope cl elt target ifs Q (.ref r) (St b h t) := by
  have hsz : Builtin.Range.rangeSize lo hi 1 = (n : Int) := by rw [rangeSize_one, hn]
  refine ⟨h, t, n, _, _, [h.objs.size], M, J, rfl, fun Q' E' q => wpAny_pyIter_range hr (small_one (by omega) (by omega) (by omega) (by omega)) (q _ (Ex.push _ _) (Heap.size_push ..) ?_), Walks.range hh _ lo 1 n, hz, fun i h' hs => ⟨_, hs⟩, fun a ha => ?_, hM, h0, mono, fun i v h₁ t₁ ys m₁ E' hi ⟨tk, e⟩ => ?_, done⟩
  · show IsRangeIter _ _ _ _ _
    rw [hsz]; simpa using Heap.get?_push_size _ rfl
  · rw [List.mem_singleton.mp ha]
    exact ⟨Nat.le_refl _, fun q => Nat.lt_irrefl _ (hM _ q)⟩
  · rw [Int.mul_one] at e
    subst e
    exact step i tk h₁ t₁ ys m₁ E' hi
end
end
end Mine

namespace Mine
section
open PySem PySem.W PyProof.Rows PySem.SeqAt
section
variable {prog : Program} {w : World} {A : Around} {E : Value → Shared → Prop} {env : Env} {b : Shared} {h : Heap} {t : Nat} {mg mb : Str → Option Value} {g : Heap}

theorem nmC {x : Str} {pos : Pos} {c : Addr} {v : Value} {Q : Value → Shared → Prop} (hv : h.IsCell c (some v)) (q : Q v (St b h t))
    (hc : env.cells.lookup x = some c := by rfl) (hk : env.scope.kind = .function := by rfl) (hx : env.kindOf x = some .cell := by with_unfolding_all rfl) (hd : (x == ("__debug__" : Str)) = false := by decide +kernel) :
    wpAny (model prog w) A (eval (.Name x pos) env) Q E (St b h t) := wpAny_Name (wpAny_loadName_cell hk hx hc hv q) hd
theorem nmF {x : Str} {pos : Pos} {c : Addr} {v : Value} {Q : Value → Shared → Prop} (hv : h.IsCell c (some v)) (q : Q v (St b h t))
    (hc : env.cells.lookup x = some c := by rfl) (hk : env.scope.kind = .function := by rfl) (hx : env.kindOf x = some .free := by with_unfolding_all rfl) (hd : (x == ("__debug__" : Str)) = false := by decide +kernel) (hn : (x == ("__classdict__" : Str)) = false := by decide +kernel) :
    wpAny (model prog w) A (eval (.Name x pos) env) Q E (St b h t) := wpAny_Name (wpAny_loadName_free hk hx hc hv q hn) hd
theorem stC {x : Str} {c : Addr} {v₀ : Option Value} {v : Value} {Q : Unit → Shared → Prop} (hv : h.IsCell c v₀)
    (q : ∀ h', h'.IsCell c (some v) → ExB (· = c) h h' → Q () (St b h' t))
    (hc : env.cells.lookup x = some c := by rfl) (hk : env.scope.kind = .function := by rfl) (hx : env.kindOf x = some .cell := by with_unfolding_all rfl) :
    wpAny (model prog w) A (storeName env x v) Q E (St b h t) :=
  wpAny_storeName_cell hk hx hc hv fun h' hv' hs => q h' hv' fun a o na e => hs.extBut a o na e
theorem asgC {x : Str} {px pos : Pos} {c : Addr} {value : Expr} {Q : Flow → Shared → Prop}
    (q : wpAny (model prog w) A (eval value env) (fun v s₁ => ∃ h₁ t₁ v₀, s₁ = St b h₁ t₁ ∧ h₁.IsCell c v₀ ∧ ∀ h', h'.IsCell c (some v) → ExB (· = c) h₁ h' → Q .next (St b h' t₁)) E (St b h t))
    (hs : swapsWith value (some (.Name x px)) pos.line env = pure false := by rfl)
    (hc : env.cells.lookup x = some c := by rfl) (hk : env.scope.kind = .function := by rfl) (hx : env.kindOf x = some .cell := by with_unfolding_all rfl) :
    wpAny (model prog w) A (exec (.Assign [.Name x px] value pos) env) Q E (St b h t) :=
  wpAny_Assign_Name (wpAny_mono q (fun _ _ ⟨_, _, _, e, hn, q'⟩ => e ▸ stC hn q' hc hk hx) fun _ _ x => x) hs
theorem CellB {h' : Heap} {a : Addr} {v : Option Value} {W : Addr → Prop} (x : h.IsCell a v) (k : ExB W h h') (n : ¬ W a) : h'.IsCell a v := let ⟨o, e, r⟩ := x; ⟨o, k _ _ n e, r⟩
theorem CellX {h' : Heap} {a : Addr} {v : Option Value} (x : h.IsCell a v) (k : Ex h h') : h'.IsCell a v := let ⟨o, e, r⟩ := x; ⟨o, k _ _ e, r⟩

theorem call_KC {hp : Heap} {f : Addr} {args : List Value} (binds : List (Str × Value)) {R : Result → Shared → Prop}
    (G : Gd w mg mb g) (k : Ex g hp) (hl : (KK w).lookup f = some (obAt (KK w) f)) (hd : (obAt (KK w) f).data = .func (fdAt (KK w) f)) (hcd : codeIn (KK w) (fdAt (KK w) f).code (fdAt (KK w) f).qualname = true) (hroom : A.depth < recursionLimit)
    (hbody : (fdAt (KK w) f).body = .stmts (bodyAt (KK w) f)) (hclo : (fdAt (KK w) f).closure = []) (hbind : bindArgs (fdAt (KK w) f) ⟨args, []⟩ = pure binds)
    (hkind : (binds.all fun y => (fdAt (KK w) f).scope.names.lookup y.1 == some .local || (fdAt (KK w) f).scope.names.lookup y.1 == some .cell) = true)
    (hco : (fdAt (KK w) f).scope.isCoroutine = false) (hgen : (fdAt (KK w) f).scope.isGenerator = false) (hk : (fdAt (KK w) f).scope.kind = .function)
    (q : ∀ h₀ t₀, h₀.Ns hp.objs.size (bindL (callEnvC (fdAt (KK w) f) hp.objs.size f).kindOf binds fun _ => none) →
      (∀ n c, (cellsFrom (hp.objs.size + 1) (fdAt (KK w) f).scope.names []).lookup n = some c → h₀.IsCell c (bindC (callEnvC (fdAt (KK w) f) hp.objs.size f).kindOf binds (fun _ => none) n)) → Ex hp h₀ →
      wpAny (model prog w) (A.deeper (callEnvC (fdAt (KK w) f) hp.objs.size f)) (execs (bodyAt (KK w) f) (callEnvC (fdAt (KK w) f) hp.objs.size f)) (fun fl s' => R (.ok (.ret (match fl with | .ret v => v | _ => .none))) s') (fun _ _ => False)
        (St b h₀ t₀)) :
    codeAny (model prog w) A (.call (.ref f) ⟨args, []⟩) R (St b hp t) := by
  obtain ⟨p, loose, mean, T⟩ := G.T
  refine codeAny_call_function hroom (k _ _ (G.X _ _ hl)) hd hco hgen hbody (codeRec_of (G.X.keeps k) hcd) ?_
  rw [hbind, hclo]
  refine wpAny_pure ?_
  refine wpAny_newFunctionEnv_cells hk (kindsX hkind _) fun env' he s' x => ?_
  subst he
  refine ⟨(T.nolimit.keeps k).keeps x.toInCall.keep, codeAny_func ?_⟩
  obtain ⟨h₁, tk, rfl, hk₁⟩ := x.done
  exact wpAny_mono (q h₁ tk x.toInCall.ns (fun n c e => x.cell n c e) hk₁) (fun _ _ z => z) fun _ _ z => z.elim
end
end
end Mine

namespace Mine
section
open PySem PySem.W PyProof.Rows PySem.SeqAt
def BoolsL (h : Heap) (a : Addr) (bs : List Bool) : Prop := h.IsList a (bs.map Value.bool).toArray
def IntsL (h : Heap) (a : Addr) (ns : List Nat) : Prop := ∃ vs, h.IsList a (List.toArray vs) ∧ IntsAre vs (ns.map fun n : Nat => (n : Int))
def RowsL (h : Heap) (u : Addr) (rows : List (List Nat)) : Prop := ∃ as : List Addr, h.IsList u (as.map Value.ref).toArray ∧ as.length = rows.length ∧ ∀ i a, as[i]? = some a → IntsL h a (rows.getD i [])
theorem IntsL.ex {h h' : Heap} {a : Addr} {ns : List Nat} (x : IntsL h a ns) (k : Ex h h') : IntsL h' a ns := let ⟨vs, l, i⟩ := x; ⟨vs, (k.lst l), i⟩
theorem BoolsL.ex {h h' : Heap} {a : Addr} {bs : List Bool} (x : BoolsL h a bs) (k : Ex h h') : BoolsL h' a bs := Ex.lst k x
theorem RowsL.ex {h h' : Heap} {u : Addr} {rows : List (List Nat)} (x : RowsL h u rows) (k : Ex h h') : RowsL h' u rows := let ⟨as, l, z, r⟩ := x; ⟨as, (k.lst l), z, fun i a e => (r i a e).ex k⟩
theorem boolsAre : ∀ bs : List Bool, LSm.BoolsAre (bs.map Value.bool) bs
  | [] => .nil
  | b :: r => .cons b (boolsAre r)

section
variable {prog : Program} {w : World} {A : Around} {E : Value → Shared → Prop} {env : Env} {b : Shared} {h : Heap} {t : Nat} {mg mb : Str → Option Value} {g : Heap}
theorem kit {h' : Heap} {o : Obj} (hk : ∀ b x, b ∉ [h.objs.size] → (h.push o).get? b = some x → h'.get? b = some x) : Ex h h' := by
  intro a x e
  have old : a ≠ h.objs.size := Nat.ne_of_lt (Heap.lt_size e)
  exact hk a x (by simpa using old) (Ex.push h o a x e)
/-- all and any over a list of bools: fin says what is made of the items' truth -/
theorem boolsSrc {l : Addr} {bs : List Bool} {Q : Value → Shared → Prop} (d : Bool) (fin : Nat → (Nat → Bool) → Bool) (hh : A.handled = none) (hl : BoolsL h l bs)
    (q : ∀ h' tk, Ex h h' → Q (.bool (fin bs.length fun i => (bs[i]?).getD d)) (St b h' tk)) :
    wpAny (model prog w) A.in1 (pyIter (.ref l)) (fun it s₂ => ∃ I fp wr n P S tr, it = .ref I ∧ Walks prog w A.in1 I fp wr n P S ∧ S 0 s₂.heap ∧ TruthOf prog w A.in1 P tr ∧
      ∀ h' tk, (∀ b o, b ∉ wr → s₂.heap.get? b = some o → h'.get? b = some o) → Q (.bool (fin n tr)) { s₂ with heap := h', toks := tk }) E (St b h t) := by
  have below : l ≠ h.objs.size := let ⟨_, e, _⟩ := hl; Nat.ne_of_lt (Heap.lt_size e)
  have W := Walks.list (prog := prog) (w := w) (A := A.in1) hh h.objs.size l below (bs.map Value.bool).toArray
  rw [show (bs.map Value.bool).toArray.size = bs.length by simp] at W
  have start : (h.push { cls := .type "list_iterator", data := .fields #[.ref l, .int 0 0] }).IsListIter h.objs.size l 0 := ⟨_, Heap.get?_push_size _ rfl, rfl, rfl⟩
  have truth : TruthOf prog w A.in1 (fun i v => (bs.map Value.bool).toArray[i]? = some v) fun i => (bs[i]?).getD d := by
    intro i v s' Q' E' hv z
    simp only [List.getElem?_toArray, List.getElem?_map, Option.map_eq_some_iff] at hv
    obtain ⟨c, hc, rfl⟩ := hv
    simp only [hc, Option.getD_some] at z
    exact wpAny_truthy_bool z
  exact wpAny_pyIter_list hl ⟨_, _, _, _, _, _, _, rfl, W, ⟨start, hl.push _⟩, truth, fun h' tk k => q h' tk (kit k)⟩
theorem allB {l : Addr} {bs : List Bool} {Q : Value → Shared → Prop} (hh : A.handled = none) (hl : BoolsL h l bs) (q : ∀ h' tk, Ex h h' → Q (.bool (bs.all id)) (St b h' tk)) : wpAny (model prog w) A (call (.builtin "all") [.ref l]) Q E (St b h t) :=
  call_all_walk (boolsSrc true (fun n tr => (List.range n).all tr) hh hl fun h' tk k => by rw [LSm.range_all bs]; exact q h' tk k)
theorem anyB {l : Addr} {bs : List Bool} {Q : Value → Shared → Prop} (hh : A.handled = none) (hl : BoolsL h l bs) (q : ∀ h' tk, Ex h h' → Q (.bool (bs.any id)) (St b h' tk)) : wpAny (model prog w) A (call (.builtin "any") [.ref l]) Q E (St b h t) :=
  call_any_walk (boolsSrc false (fun n tr => (List.range n).any tr) hh hl fun h' tk k => by rw [LSm.range_any bs]; exact q h' tk k)
theorem cpyL {l : Addr} {its : Array Value} {Q : Value → Shared → Prop} (hl : h.IsList l its) (hz : its.size ≤ 1000000) (q : ∀ h', Ex h h' → h'.IsList h.objs.size its → Q (.ref h.objs.size) (St b h' t)) : wpAny (model prog w) A (call (.type "list") [.ref l]) Q E (St b h t) := by
  obtain ⟨o, ho, hc, n, hd⟩ := hl
  exact call_list_seq (hsz := sz24 hz) l (.inl rfl) ho hc hd fun h' c' hk hD => q h' hk ⟨_, hD, rfl, c', rfl⟩
theorem itemB {value slice : Expr} {l : Addr} {bs : List Bool} {k : Nat} {u : Tok} {Q : Value → Shared → Prop} (hl : BoolsL h l bs) (hk : k < bs.length) (hz : bs.length ≤ 1000) (q : Q (.bool (bs.getD k false)) (St b h t))
    (hs : subscripted slice false (.ref l) (.int (k : Int) u) = operate [.ref l, .int (k : Int) u] (getItem (.ref l) (.int (k : Int) u)) := by with_unfolding_all rfl) :
    wpAny (model prog w) A (subscriptTail value slice (.ref l) (.int (k : Int) u)) Q E (St b h t) :=
  itemL hl (Int.natCast_nonneg _) (by omega) (by simp [hk]) q hs

theorem itemR {value slice : Expr} {l : Addr} {rows : List (List Nat)} {k : Nat} {u : Tok} {Q : Value → Shared → Prop} (hl : RowsL h l rows) (hk : k < rows.length) (hz : rows.length ≤ 1000) (q : ∀ a, IntsL h a (rows.getD k []) → Q (.ref a) (St b h t))
    (hs : ∀ a, subscripted slice false (.ref a) (.int (k : Int) u) = operate [.ref a, .int (k : Int) u] (getItem (.ref a) (.int (k : Int) u)) := by intro _; with_unfolding_all rfl) :
    wpAny (model prog w) A (subscriptTail value slice (.ref l) (.int (k : Int) u)) Q E (St b h t) := by
  obtain ⟨as, l1, z, r⟩ := hl
  have hk' : k < as.length := by omega
  exact itemL l1 (Int.natCast_nonneg _) (by omega) (x := .ref as[k]) (by simp [hk']) (q _ (r k _ (List.getElem?_eq_getElem hk'))) (hs _)
/-- [flags[one] for one in SOURCE] -/
theorem flagsComp {iter : Expr} {scope : Scope} {cl : List (Str × Addr)} {p1 p2 p3 p4 pos : Pos} {Q : Value → Shared → Prop} {s : Shared} (hh : A.handled = none)
    (q : wpAny (model prog w) A (eval iter env) (fun xv s₁ => ∃ l h t ns bs c fl, xv = .ref l ∧ s₁ = St b h t ∧ IntsL h l ns ∧ ns.length ≤ 1000 ∧ (∀ n ∈ ns, n < bs.length) ∧ bs.length ≤ 1000 ∧ h.IsCell c (some (.ref fl)) ∧ cl.lookup (Str.ofString "flags") = some c ∧ BoolsL h fl bs ∧
      ∀ D h' t', Ex h h' → BoolsL h' D (ns.map fun n => bs.getD n false) → Q (.ref D) (St b h' t')) E s)
    (hclos : closureFor scope env = pure cl := by rfl) (hkF : ∀ C, (compEnvC scope cl C env).kindOf "flags" = some .cell := by intro _; with_unfolding_all rfl) (hkO : ∀ C, (compEnvC scope cl C env).kindOf "one" = some .local := by intro _; with_unfolding_all rfl) (hcell : (scope.names.all fun x => decide (x.2 ≠ .cell)) = true := by rfl) (hkind : scope.kind = .function := by rfl)
    (hnames : (scope.names.all fun x => decide (x.2 = .local → scope.names.lookup x.1 = some .local)) = true := by rfl) (hs : ∀ x, foldedSetIterable iter env x = pure x := by intro _; rfl) :
    wpAny (model prog w) A (eval (.ListComp (.Subscript (.Name "flags" p1) (.Name "one" p2) p3) [⟨.Name "one" p4, iter, [], 0⟩] scope pos) env) Q E s := by
  refine compE (b := b) (wpAny_mono q (fun xv s₁ q₁ => ?_) fun _ _ x => x) hclos hcell hkind hnames hs
  obtain ⟨l, h, t, ns, bs, c, fl, rfl, rfl, ⟨vs, hl, hi⟩, hnz, hb, hbz, hc, hcl, hf, q₂⟩ := q₁
  have hvl : vs.length = ns.length := by rw [hi.length, List.length_map]
  refine CompQ.list hh hl (by rw [List.size_toArray]; omega) (fun _ => False) (fun i _ ys => ys = (ns.map fun n => Value.bool (bs.getD n false)).take i) (fun _ x => x.elim) (fun x => x) (fun _ _ => rfl) (fun _ _ _ _ x _ => x)
    (fun i v h₁ t₁ ys m₁ E' hv hj k hn _ => ?_) (fun h₁ t₁ ys hj _ k hD h' k' => ?_)
  · subst hj
    have kx : Ex h h₁ := k.fresh fun _ x => x.elim
    refine asgN hn (fun h₂ n₂ k₂ => wpAny_tests_nil ?_) hkind (hkO _)
    have hne : ∀ {a : Addr} {o : Obj}, h.get? a = some o → a ≠ h.objs.size + 2 := fun e => Nat.ne_of_lt (Nat.lt_of_lt_of_le (Heap.lt_size e) (Nat.le_add_right _ _))
    have k2 : Ex h h₂ := fun a o e => k₂ a o (hne e) (kx a o e)
    have hlt : i < ns.length := by
      have := (Array.getElem?_eq_some_iff.mp hv).1
      rw [List.size_toArray] at this; omega
    obtain ⟨tv, rfl⟩ := hi.int_at i v (by simpa using hv)
    have e : ((ns.map fun n : Nat => (n : Int)).getD i 0) = ((ns.getD i 0 : Nat) : Int) := by simp [hlt]
    rw [e] at n₂
    simp only [if_true]
    refine Subscript_ ?_
    refine nmC (CellX hc k2) ?_ hcl hkind (hkF _) (by decide +kernel)
    refine nmL n₂ (if_pos rfl) ?_ hkind (hkO _) (by decide +kernel)
    refine itemB (hf.ex k2) (hb _ (by simp [hlt])) hbz ?_
    refine ⟨h₂, _, _, rfl, Kp.ofB k₂ fun a e => .inr (by rw [e]; exact Nat.lt_succ_self _), n₂, ?_⟩
    rw [List.take_add_one]
    simp [hlt]
  · subst hj
    have e : vs.toArray.size = (ns.map fun n => Value.bool (bs.getD n false)).length := by rw [List.size_toArray, hvl, List.length_map]
    rw [e, List.take_length] at hD
    refine q₂ _ h' _ (fun a o e => k' a o (Nat.ne_of_lt (Nat.lt_of_lt_of_le (Heap.lt_size e) (Nat.le_add_right _ _))) (k a o (fun x => x) e)) (by unfold BoolsL; rw [List.map_map]; exact LsB hD k' (Nat.ne_of_lt (Nat.lt_succ_self _)))
end
end
end Mine

namespace Mine
section
open PySem PySem.W PyProof.Rows PySem.SeqAt
def togg (un ov : List (List Nat)) (fl : List Bool) (k : Nat) : List Bool :=
  if ((un.getD k []).map fun j => fl.getD j false).all id && !((ov.getD k []).map fun j => fl.getD j false).any id then fl.set k (!fl.getD k false) else fl
def turnF (un ov : List (List Nat)) (ord : List Nat) (fl : List Bool) : List Bool := ord.foldl (togg un ov) fl
theorem turnF_snoc {un ov : List (List Nat)} {ord : List Nat} {k : Nat} {fl : List Bool} : turnF un ov (ord ++ [k]) fl = togg un ov (turnF un ov ord fl) k := by rw [turnF, List.foldl_append]; rfl
theorem togg_len {un ov : List (List Nat)} {fl : List Bool} {k : Nat} : (togg un ov fl k).length = fl.length := by unfold togg; split <;> simp
theorem turnF_len {un ov : List (List Nat)} {ord : List Nat} {fl : List Bool} : (turnF un ov ord fl).length = fl.length := by
  unfold turnF
  induction ord generalizing fl with
  | nil => rfl
  | cons k r ih => rw [List.foldl_cons, ih, togg_len]

section
variable {prog : Program} {w : World} {A : Around} {E : Value → Shared → Prop} {env : Env} {b : Shared} {h : Heap} {t : Nat} {mg mb : Str → Option Value} {g : Heap}
/-- over a list -/
theorem forList {target : Expr} {body : List Stmt} {Q : Flow → Shared → Prop} {l : Addr} {its : Array Value} (hh : A.handled = none) (hl : h.IsList l its)
    (M : Addr → Prop) (J : Nat → Heap → Prop) (hM : ∀ a, M a → a < h.objs.size) (hlM : ¬ M l) (h0 : ∀ h', Ex h h' → J 0 h')
    (mono : ∀ i h₀ h₁, J i h₀ → ExB (· = h.objs.size) h₀ h₁ → J i h₁)
    (step : ∀ i v h₁ t₁ (E' : Value → Shared → Prop), its[i]? = some v → J i h₁ → ExB M h h₁ → (∃ o, h₁.get? h.objs.size = some o) →
      wpAny (model prog w) A (assign target env v) (fun _ s₂ => wpAny (model prog w) A (execs body env) (fun f s₃ => match f with
        | .next | .cont => ∃ h₃ t₃, s₃ = St b h₃ t₃ ∧ Kp M h.objs.size h₁ h₃ ∧ J (i + 1) h₃
        | .brk => Q .next s₃
        | .ret v => Q (.ret v) s₃) E' s₂) E' (St b h₁ t₁))
    (done : ∀ h₁ t₁, J its.size h₁ → ExB M h h₁ → Q .next (St b h₁ t₁))
    (ht : ∀ v, letOwnedTupleGo target (.ref h.objs.size) v = pure () := by intro _; rfl) :
    wpAny (model prog w) A (pyIter (.ref l)) (fun it s₂ => codeAny (model prog w) A (.forLoop target it body [] env) (fun r s' => match r with | .ok f => Q f s' | .error e => cameBackBy (model prog w) A env E e s') s₂) E (St b h t) := by
  have hlt : l < h.objs.size := by obtain ⟨o, e, _⟩ := hl; exact Heap.lt_size e
  refine wpAny_pyIter_list hl ?_
  refine forG (h := h) (t := t) M J (Walks.list hh h.objs.size l (Nat.ne_of_lt hlt) its) (fun a ha => ?_) (fun i h' ⟨⟨o, e, _⟩, _⟩ => ⟨o, e⟩) ⟨⟨_, Heap.get?_push_size _ rfl, rfl, rfl⟩, hl.push _⟩ (Ex.push _ _) (h0 _ (Ex.push _ _)) mono ?_ done ht
  · rcases List.mem_cons.mp ha with rfl | ha
    · exact ⟨Nat.le_refl _, fun q => Nat.lt_irrefl _ (hM _ q)⟩
    · rw [List.mem_singleton.mp ha]; exact ⟨Nat.le_of_lt hlt, hlM⟩
  · rintro i v h₁ t₁ E' _ hv hj hk ho
    exact step i v h₁ t₁ E' hv hj hk ho
end

section
variable {prog : Program} {w : World} {A : Around} {E : Value → Shared → Prop} {b : Shared} {hp : Heap} {t : Nat} {mg mb : Str → Option Value} {g : Heap}
theorem turn_spec {Q : Value → Shared → Prop} (G : Gd w mg mb g) (k : Ex g hp) (r : Room A 20 60) {fl ord un ov : Addr} {bs : List Bool} {os : List Nat} {us vs : List (List Nat)}
    (hf : BoolsL hp fl bs) (ho : IntsL hp ord os) (hu : RowsL hp un us) (hv : RowsL hp ov vs) (zb : bs.length ≤ 100) (zo : os.length ≤ 100) (hos : ∀ k ∈ os, k < bs.length) (zu : us.length = bs.length) (zv : vs.length = bs.length)
    (hus : ∀ r ∈ us, r.length ≤ 100 ∧ ∀ j ∈ r, j < bs.length) (hvs : ∀ r ∈ vs, r.length ≤ 100 ∧ ∀ j ∈ r, j < bs.length)
    (q : ∀ a h' tk, Ex hp h' → hp.get? a = none → BoolsL h' a (turnF us vs os bs) → Q (.ref a) (St b h' tk)) :
    wpAny (model prog w) A (call (.ref 99) [.ref fl, .ref ord, .ref un, .ref ov]) Q E (St b hp t) := by
  refine wpAny_call (call_KC (f := 99) [("flags", .ref fl), ("order", .ref ord), ("under", .ref un), ("over", .ref ov)] G k (by kernel_rfl) (by kernel_rfl) (by kernel_rfl) (by have := r.dp; omega) (by kernel_rfl) (by kernel_rfl) (by kernel_rfl) (by kernel_rfl) (by kernel_rfl) (by kernel_rfl) (by kernel_rfl) fun h₀ t₀ hn hc k₀ => ?_)
  generalize hL : hp.objs.size = L at hn hc ⊢
  have hfr : hp.get? L = none := hL ▸ get_size _
  have c₀ : h₀.IsCell (L + 1) (some (.ref fl)) := hc "flags" (L + 1) (by kernel_rfl)
  have zL : L < h₀.objs.size := hn.lt
  have hcL : ∀ {a : Addr} {o : Obj}, hp.get? a = some o → a ≠ L ∧ a ≠ L + 1 := fun e => by
    have := Heap.lt_size e
    rw [hL] at this
    exact ⟨Nat.ne_of_lt this, Nat.ne_of_lt (Nat.lt_succ_of_lt this)⟩
  refine wpAny_execs_cons (asgC ?_)
  refine Call_ ?_
  refine nmB (v := .type "list") G (k.trans k₀) ?_
  refine PyProof.Rows.callWith_type1 ?_
  refine args_cons ?_
  refine nmC c₀ ?_
  refine args_nil ?_
  refine cpyL (hf.ex k₀) (by rw [List.size_toArray, List.length_map]; omega) fun h₁ k₁ l₁ => ?_
  refine ⟨_, _, _, rfl, CellX c₀ k₁, fun h₂ c₂ k₂ => ?_⟩
  have hD1 : h₀.objs.size ≠ L + 1 := by obtain ⟨o, e, _⟩ := c₀; exact Nat.ne_of_gt (Heap.lt_size e)
  have hDL : h₀.objs.size ≠ L := Nat.ne_of_gt zL
  have hDn : hp.get? h₀.objs.size = none := by
    cases e : hp.get? h₀.objs.size with
    | none => rfl
    | some o => exact absurd (Heap.lt_size (k₀ _ _ e)) (Nat.lt_irrefl _)
  generalize hDD : h₀.objs.size = D at *
  have l₂ : BoolsL h₂ D bs := LsB l₁ k₂ hD1
  have n₂ := (hn.keeps k₁).at' fun o e => k₂ _ o (Nat.ne_of_lt (Nat.lt_succ_self L)) e
  have k₂' : Ex hp h₂ := fun a o e => k₂ a o (hcL e).2 (k₁ _ _ (k₀ _ _ e))
  refine wpAny_execs_cons ?_
  refine wpAny_For ?_
  refine nmL (v := .ref ord) n₂ (by kernel_rfl) ?_
  obtain ⟨ws, lo, io⟩ := ho.ex k₂'
  have hwl : ws.length = os.length := by rw [io.length, List.length_map]
  have hoL : ord ≠ L ∧ ord ≠ D := by
    obtain ⟨_, ⟨o, e, _⟩, _⟩ := ho
    exact ⟨(hcL e).1, fun c => by rw [c, hDn] at e; cases e⟩
  have hDlt : D < h₂.objs.size := by obtain ⟨o, e, _⟩ := l₂; exact Heap.lt_size e
  refine forList r.hh lo (fun a => a = L ∨ a = D)
    (fun i h => ∃ m, h.Ns L m ∧ m "under" = some (.ref un) ∧ m "over" = some (.ref ov) ∧ BoolsL h D (turnF us vs (os.take i) bs))
    (fun a e => e.elim (fun e => e ▸ n₂.lt) (fun e => e ▸ hDlt)) (fun e => e.elim hoL.1 hoL.2) (fun h' x => ⟨_, n₂.keeps x, by kernel_rfl, by kernel_rfl, BoolsL.ex l₂ x⟩)
    (fun i h₃ h₄ ⟨m, z1, z2, z3, z4⟩ x => ⟨m, z1.at' fun o e => x _ o (Nat.ne_of_lt n₂.lt) e, z2, z3, LsB z4 x (Nat.ne_of_lt hDlt)⟩)
    (fun i v h₃ t₃ E' hi ⟨m, z1, z2, z3, z4⟩ k₃ _ => ?_) fun h₃ t₃ ⟨m, z1, z2, z3, z4⟩ k₃ => ?_
  · have k₃' : Ex hp h₃ := fun a o e => k₃ a o (fun c => c.elim (hcL e).1 (fun c => by rw [c, hDn] at e; cases e)) (k₂' a o e)
    have c₃ : h₃.IsCell (L + 1) (some (.ref D)) := CellB c₂ k₃ (fun c => c.elim (fun c => Nat.ne_of_gt (Nat.lt_succ_self L) c) (fun c => hD1 c.symm))
    have hlt : i < os.length := by
      have := (Array.getElem?_eq_some_iff.mp hi).1
      rw [List.size_toArray] at this; omega
    obtain ⟨tv, rfl⟩ := io.int_at i v (by simpa using hi)
    have e : ((os.map fun n : Nat => (n : Int)).getD i 0) = ((os.getD i 0 : Nat) : Int) := by simp [hlt]
    rw [e]
    generalize hcur : turnF us vs (os.take i) bs = cur at z4
    have hcl : cur.length = bs.length := by rw [← hcur, turnF_len]
    have hkk : os.getD i 0 < bs.length := hos _ (by simp [hlt])
    have htk : os.take (i + 1) = os.take i ++ [os.getD i 0] := by rw [List.take_add_one]; simp [hlt]
    rw [htk, turnF_snoc, hcur]
    generalize hkv : os.getD i 0 = kk at *
    refine asgN z1 fun h₄ n₄ k₄ => ?_
    have z₄ : BoolsL h₄ D cur := LsB z4 k₄ hDL
    have c₄ : h₄.IsCell (L + 1) (some (.ref D)) := CellB c₃ k₄ (Nat.ne_of_gt (Nat.lt_succ_self L))
    have k₄' : Ex hp h₄ := fun a o e => k₄ a o (hcL e).1 (k₃' a o e)
    refine wpAny_execs_cons ?_
    refine wpAny_If ?_
    refine wpAny_mono (Q := fun c s => c = (((us.getD kk []).map fun j => cur.getD j false).all id && !((vs.getD kk []).map fun j => cur.getD j false).any id) ∧ ∃ h' t', s = St b h' t' ∧ Ex h₄ h') ?_ (fun c s hc => ?_) fun _ _ x => x
    · have hur := hus (us.getD kk []) (by rw [List.getD_eq_getElem?_getD, List.getElem?_eq_getElem (by omega)]; exact List.getElem_mem _)
      have hvr := hvs (vs.getD kk []) (by rw [List.getD_eq_getElem?_getD, List.getElem?_eq_getElem (by omega)]; exact List.getElem_mem _)
      refine isTrue_and ?_
      refine isTrue_plain ?_
      refine Call_ ?_
      refine nmB G (k.trans k₄') ?_
      refine PyProof.Rows.callWith_builtin1 ?_
      refine args_cons ?_
      refine flagsComp (b := b) r.hh ?_
      refine Subscript_ ?_
      refine nmL n₄ (by simp only [ofString_inj]; exact z2) ?_
      refine nmL n₄ (if_pos rfl) ?_
      refine itemR (hu.ex k₄') (by omega) (by omega) fun a ia => ?_
      refine ⟨a, h₄, _, _, cur, _, D, rfl, rfl, ia, by omega, fun n hn => by have := hur.2 n hn; omega, by omega, c₄, rfl, z₄, fun D' h₅ t₅ k₅ b₅ => ?_⟩
      refine args_nil ?_
      refine allB r.hh b₅ fun h₆ t₆ k₆ => ?_
      refine trB ?_
      have k₆' : Ex h₄ h₆ := k₅.trans k₆
      cases hall : ((us.getD kk []).map fun j => cur.getD j false).all id with
      | false => exact ⟨rfl, h₆, t₆, rfl, k₆'⟩
      | true =>
        rw [if_pos rfl, Bool.true_and]
        refine isTrue_and ?_
        refine isTrue_not ?_
        refine isTrue_plain ?_
        refine Call_ ?_
        refine nmB G ((k.trans k₄').trans k₆') ?_
        refine PyProof.Rows.callWith_builtin1 ?_
        refine args_cons ?_
        refine flagsComp (b := b) r.hh ?_
        refine Subscript_ ?_
        refine nmL (n₄.keeps k₆') (by simp only [ofString_inj]; exact z3) ?_
        refine nmL (n₄.keeps k₆') (if_pos rfl) ?_
        refine itemR (hv.ex (k₄'.trans k₆')) (by omega) (by omega) fun a ia => ?_
        refine ⟨a, h₆, _, _, cur, _, D, rfl, rfl, ia, by omega, fun n hn => by have := hvr.2 n hn; omega, by omega, CellX c₄ k₆', rfl, BoolsL.ex z₄ k₆', fun D' h₇ t₇ k₇ b₇ => ?_⟩
        refine args_nil ?_
        refine anyB r.hh b₇ fun h₈ t₈ k₈ => ?_
        refine trB ?_
        have k₈' : Ex h₄ h₈ := k₆'.trans (k₇.trans k₈)
        cases hany : ((vs.getD kk []).map fun j => cur.getD j false).any id with
        | true => exact ⟨rfl, h₈, t₈, rfl, k₈'⟩
        | false => exact isTrue_and_nil ⟨rfl, h₈, t₈, rfl, k₈'⟩
    · obtain ⟨rfl, h₅, t₅, rfl, k₅⟩ := hc
      have kp5 : Kp (fun a => a = L ∨ a = D) h₂.objs.size h₃ h₅ := (Kp.ofB k₄ fun a e => .inl (.inl e)).trans (Kp.ofEx k₅ _ _)
      by_cases hcond : (((us.getD kk []).map fun j => cur.getD j false).all id && !((vs.getD kk []).map fun j => cur.getD j false).any id) = true
      · rw [if_pos hcond]
        have c₅ := CellX c₄ k₅
        have n₅ := n₄.keeps k₅
        have z₅ := BoolsL.ex z₄ k₅
        refine wpAny_execs_cons ?_
        refine wpAny_Assign_Subscript ?_
        refine wpAny_UnaryOp ?_
        refine Subscript_ ?_
        refine nmC c₅ ?_
        refine nmL n₅ (if_pos rfl) ?_
        refine itemB z₅ (by omega) (by omega) ?_
        refine not_of ?_
        refine trB ?_
        refine nmC c₅ ?_
        refine nmL n₅ (if_pos rfl) ?_
        refine setL z₅ (Int.natCast_nonneg _) (by rw [List.size_toArray, List.length_map]; omega) (by rw [List.size_toArray, List.length_map]; omega) fun h₆ l₆ k₆ => ?_
        refine wpAny_execs_nil (wpAny_execs_nil ⟨h₆, _, rfl, kp5.trans (Kp.ofB k₆ fun a e => .inl (.inr e)), _, n₅.at' fun o e => k₆ _ o (Ne.symm hDL) e, by simp only [ofString_inj]; exact z2, by simp only [ofString_inj]; exact z3, ?_⟩)
        unfold togg
        rw [if_pos hcond]
        unfold BoolsL
        rw [Int.toNat_natCast, List.setIfInBounds_toArray] at l₆
        rw [List.map_set]
        exact l₆
      · rw [if_neg hcond]
        refine wpAny_execs_nil (wpAny_execs_nil ⟨h₅, _, rfl, kp5, _, n₄.keeps k₅, by simp only [ofString_inj]; exact z2, by simp only [ofString_inj]; exact z3, ?_⟩)
        unfold togg
        rw [if_neg hcond]
        exact BoolsL.ex z₄ k₅
  · have k₃' : Ex hp h₃ := fun a o e => k₃ a o (fun c => c.elim (hcL e).1 (fun c => by rw [c, hDn] at e; cases e)) (k₂' a o e)
    have c₃ : h₃.IsCell (L + 1) (some (.ref D)) := CellB c₂ k₃ (fun c => c.elim (fun c => Nat.ne_of_gt (Nat.lt_succ_self L) c) (fun c => hD1 c.symm))
    rw [List.size_toArray, hwl, List.take_length] at z4
    refine wpAny_execs_cons ?_
    refine wpAny_Return_some ?_
    refine nmC c₃ ?_
    exact q D h₃ _ k₃' hDn z4
end
end
end Mine

namespace Mine
section
open PySem PySem.W PyProof.Rows PySem.SeqAt
section
variable {prog : Program} {w : World} {A : Around} {E : Value → Shared → Prop} {s : Shared}
/-- an enumerate object, new -/
abbrev enObj (it : Value) : Obj := { cls := .type "enumerate", data := .fields #[.none, .bool false, it, rawInt 0, .none, .none] }
/-- enumerate over whatever has an iterator -/
theorem enumNew (x : Value) : MeetsIn prog w (Builtin.«enumerate.__new__» ⟨[.type "enumerate", x], []⟩)
    (fun A R s => wpAny (model prog w) A.in1 (pyIter x) (fun it s' => R (.ok (.ret (.ref s'.heap.objs.size))) { s' with heap := s'.heap.push (enObj it) }) (fun e s' => R (.error e) s') s) :=
  .of_wp fun A R s src => by
    have sub := sub_enumerate
    wp_walk
    refine wpAny_stack_any fun st => ?_
    wp_walk
    split
    all_goals split
    all_goals wp_walk using wpAny_mono src
    all_goals first
      | exact fun _ _ z => z
      | (intro it s' z; wp_walk; exact ⟨_, rfl, z⟩)
/-- enumerate(x), where x's iterator is known -/
theorem callEnum {x : Value} {Q : Value → Shared → Prop}
    (src : wpAny (model prog w) A.in1.in1 (pyIter x) (fun it s' => Q (.ref s'.heap.objs.size) { s' with heap := s'.heap.push (enObj it) }) E s) :
    wpAny (model prog w) A (call (.type "enumerate") [x]) Q E s := by
  refine callType_newIn F.called_enumerate (by decide) (F.typeCall_enumerate_1 x) (F.newCall_enumerate_1 x) (fun o => F.args_object_init_2 o x) F.entry_enumerate_new (enumNew x) ?_
  exact wpAny_mono src (fun it s' z => ⟨⟨_, Heap.get?_push_size _ rfl, rfl⟩, z⟩) fun _ _ z => z

/-- a step of a tuple's iterator -/
theorem tupStep (it l : Addr) (i : Nat) (items : Array Value) (x : Value) (hx : items[i]? = some x) : Meets (Builtin.«tuple_iterator.__next__» ⟨[.ref it], []⟩)
    (fun _ R s => s.heap.IsTupleIter it l i ∧ s.heap.IsTuple l items ∧ ∀ h', h'.IsTupleIter it l (i + 1) → Heap.SameBut it s.heap h' → R (.ok (.ret x)) { s with heap := h' }) :=
  .of_wp fun prog w A R ⟨hp, g, d, tk, os⟩ ⟨⟨⟨oc, od, oa, sl⟩, e, c, f⟩, ⟨⟨lc, ld, la, ls⟩, el, cl, n, fl⟩, z⟩ => by
    simp only at c f cl fl e el; subst c f cl fl
    wp_walk
    rw [Int.toNat_natCast, hx]
    wp_walk
    refine ⟨_, rfl, z _ ⟨_, Heap.get?_update_self _ e rfl, rfl, ?_⟩ (Heap.SameBut.update ..)⟩
    simp [Obj.mapFields, rawInt]
/-- its end -/
theorem tupStop (it l : Addr) (i : Nat) (items : Array Value) (hx : items[i]? = none) : Meets (Builtin.«tuple_iterator.__next__» ⟨[.ref it], []⟩)
    (fun A R s => A.handled = none ∧ s.heap.IsTupleIter it l i ∧ s.heap.IsTuple l items ∧ ∀ h' x, Heap.ExtBut it s.heap h' → (∃ o, h'.get? x = some o ∧ o.cls = .type "StopIteration") → R (.error (.ref x)) { s with heap := h' }) :=
  .of_wp fun prog w A R ⟨hp, g, d, tk, os⟩ ⟨hh, ⟨⟨oc, od, oa, sl⟩, e, c, f⟩, ⟨⟨lc, ld, la, ls⟩, el, cl, n, fl⟩, z⟩ => by
    simp only at c f cl fl e el; subst c f cl fl
    have hh' : A.in1.handled = none := hh
    wp_walk
    rw [Int.toNat_natCast, hx]
    wp_walk
    exact wpAny_raiseNew_none hh' (z _ _ (((Heap.SameBut.update ..).extBut.push _).push _) ⟨_, Heap.get?_push_size _ rfl, rfl⟩)
/-- what an iterator with a slot of its own for the next item gives -/
theorem nextBy {it : Addr} {T id : String} {B : Builtin} {S : PySem.Spec} {Q : Value → Shared → Prop} (slot : Slot T (Str.ofString "__next__") id) (hT : s.TypeIs (.ref it) T) (entry : entryFor table id = some B)
    (args : argsOk id ⟨[.ref it], []⟩) (m : Meets (B ⟨[.ref it], []⟩) S) (z : S A (wants Q E) s) : wpAny (model prog w) A (Builtin.SmallTypes.nextOf (.ref it)) Q E s :=
  wpAny_bind (wpAny_callSpecial?_slot hT slot (wpAny_mono (call_meets slot hT entry args m z) (fun _ _ q => wpAny_pure q) fun _ _ q => q))
/-- a tuple's items, drawn one by one -/
theorem tupDraws (hh : A.handled = none) (it l : Addr) (hne : l ≠ it) (items : Array Value) :
    Draws prog w A it [it, l] items.size (fun i v => items[i]? = some v) (fun i h => h.IsTupleIter it l i ∧ h.IsTuple l items) := by
  have next := fun {S : PySem.Spec} {Q : Value → Shared → Prop} {E : Value → Shared → Prop} {s : Shared} (i : Nat) (x : s.heap.IsTupleIter it l i) => nextBy (prog := prog) (w := w) (A := A) (S := S) (Q := Q) (E := E) F.slot_tuple_iterator_next x.typeIs F.entry_tuple_iterator_next (F.args_tuple_iterator_next_1 _)
  constructor
  · rintro i h ⟨⟨o, e, _⟩, _⟩
    exact ⟨o, e⟩
  · rintro i h h' ⟨a, c⟩ k
    exact ⟨a.at (k it List.mem_cons_self), c.at (k l (List.mem_cons_of_mem _ List.mem_cons_self))⟩
  · rintro i s Q E hi ⟨a, c⟩ q
    have hx : items[i]? = some items[i] := Array.getElem?_eq_getElem hi
    exact next i a (tupStep it l i items _ hx) ⟨a, c, fun h' a' k => q _ h' s.toks hx ⟨a', c.extBut k.extBut hne⟩ k⟩
  · rintro s Q E ⟨a, c⟩ q
    exact next _ a (tupStop it l _ items (Array.getElem?_eq_none (Nat.le_refl _))) ⟨hh, a, c, q⟩
/-- enumerate(a tuple) -/
theorem enumTup {l : Addr} {items : Array Value} {Q : Value → Shared → Prop} (hL : s.heap.IsTuple l items)
    (q : ∀ h', IsEnum h' (s.heap.objs.size + 1) s.heap.objs.size 0 .none → h'.IsTupleIter s.heap.objs.size l 0 → h'.objs.size = s.heap.objs.size + 2 → Ex s.heap h' → Q (.ref (s.heap.objs.size + 1)) { s with heap := h' }) :
    wpAny (model prog w) A (call (.type "enumerate") [.ref l]) Q E s := by
  refine callEnum (wpAny_pyIter_tuple hL ?_)
  have z : (s.heap.push { cls := .type "tuple_iterator", data := .fields #[.ref l, .int 0 0] }).objs.size = s.heap.objs.size + 1 := Heap.size_push ..
  dsimp only
  rw [z]
  refine q _ ?_ ⟨_, Ex.push _ _ _ _ (Heap.get?_push_size _ rfl), rfl, rfl⟩ (by rw [Heap.size_push, z]) ((Ex.push _ _).trans (Ex.push _ _))
  unfold IsEnum
  rw [← z]
  exact Heap.get?_push_size _ rfl
end

section
variable {prog : Program} {w : World} {A : Around} {E : Value → Shared → Prop} {env cenv : Env} {b : Shared} {h hS : Heap} {t : Nat} {mg mb : Str → Option Value} {g : Heap}
/-- a comprehension's turns over a source that yields any target's values; D: what is built, B: where the new ones begin -/
theorem compT {elt target iter : Expr} {scope : Scope} {pos : Pos} {B I D : Addr} {fp wr : List Addr} {n : Nat} {P Md : Nat → Value → Heap → Prop} {S : Nat → Heap → Prop} {R : Result → Shared → Prop} {m₀ : Str → Option Value} (M : Addr → Prop) (J : Nat → Heap → List Value → Prop)
    (W : KTurns prog w A target I fp wr n P Md S) (self : ∀ (s : Shared) (Q : Value → Shared → Prop) (E : Value → Shared → Prop), S 0 s.heap → Q (.ref I) s → wpAny (model prog w) A (pyIter (.ref I)) Q E s)
    (hsz : n ≤ 1000000) (hwr : ∀ a ∈ wr, B ≤ a ∧ a < D) (hfp : ∀ a ∈ fp, a < D ∧ ¬ M a) (hM : ∀ a, M a → a < B) (hS0 : S 0 hS) (hBh : h.objs.size ≤ B) (hBD : B ≤ D) (hx : Ex h hS)
    (hD : hS.IsList D #[]) (hC : hS.Ns cenv.locals m₀) (hCD : cenv.locals = D + 1) (h0 : J 0 hS [])
    (mono : ∀ i h₀ h₁ ys, J i h₀ ys → ExB (fun a => B ≤ a ∧ a ≤ D + 1) h₀ h₁ → J i h₁ ys)
    (step : ∀ i v h₁ t₁ ys m₁ (E' : Value → Shared → Prop), i < n → P i v h₁ → J i h₁ ys → ExB M h h₁ → h₁.Ns cenv.locals m₁ → (∃ o, h₁.get? D = some o) →
      wpAny (model prog w) A (assign target cenv v) (fun _ s₂ =>
        wpAny (model prog w) A (eval elt cenv) (fun y s₄ => ∃ h₄ t₄ m₄, s₄ = St b h₄ t₄ ∧ Kp M D h₁ h₄ ∧ h₄.Ns cenv.locals m₄ ∧ J (i + 1) h₄ (ys ++ [y])) E' s₂) E' (St b h₁ t₁))
    (done : ∀ h₁ t₁ ys m₁, J n h₁ ys → ys.length ≤ n → ExB M h h₁ → h₁.IsList D ys.toArray → h₁.Ns cenv.locals m₁ → R (.ok .next) (St b h₁ t₁)) :
    codeAny (model prog w) A (.compStart (.ListComp elt [⟨target, iter, [], 0⟩] scope pos) 0 (.ref I) (.ref D) cenv) R (St b hS t) := by
  have hCne : cenv.locals ≠ D := by rw [hCD]; exact Nat.ne_of_gt (Nat.lt_succ_self _)
  have hDw : D ∉ wr := fun q => Nat.lt_irrefl _ (hwr _ q).2
  have hCw : cenv.locals ∉ wr := fun q => by have := (hwr _ q).2; rw [hCD] at this; exact Nat.lt_irrefl _ (Nat.lt_of_succ_lt this)
  have hold : ∀ {a : Addr} {o : Obj}, h.get? a = some o → a < D ∧ a ∉ wr := fun e => by
    have h1 := Nat.lt_of_lt_of_le (Heap.lt_size e) hBh
    exact ⟨Nat.lt_of_lt_of_le h1 hBD, fun q => Nat.lt_irrefl _ (Nat.lt_of_lt_of_le h1 (hwr _ q).1)⟩
  have inB : ∀ {h₀ h₁ : Heap}, (∀ b o, b ∉ wr → h₀.get? b = some o → h₁.get? b = some o) → ExB (fun a => B ≤ a ∧ a ≤ D + 1) h₀ h₁ := fun k a o na e => k a o (fun q => na ⟨(hwr _ q).1, Nat.le_of_lt (Nat.lt_succ_of_lt (hwr _ q).2)⟩) e
  have loop : codeAny (model prog w) A (.compLoop (.ListComp elt [⟨target, iter, [], 0⟩] scope pos) 0 (.ref I) (.ref D) cenv) R (St b hS t) := by
    refine kcp_loop (fun k s' => ∃ i h' t' ys m', i ≤ n ∧ k = n - i ∧ s' = St b h' t' ∧ S i h' ∧ ExB M h h' ∧ h'.IsList D (List.toArray ys) ∧ ys.length ≤ i ∧ h'.Ns cenv.locals m' ∧ J i h' ys) ?_ n
      ⟨0, hS, t, [], m₀, Nat.zero_le _, rfl, rfl, hS0, hx.but M, hD, Nat.le_refl _, hC, h0⟩
    rintro k s' ⟨i, h', t', ys, m', hi, rfl, rfl, hs, hk', hl, hyl, hn, hj⟩
    by_cases hlt : i < n
    · refine W.item i _ _ _ hlt hs fun v h₀ tk₁ hMd hk => ?_
      refine W.go i v { St b h' t' with heap := h₀, toks := tk₁ } _ _ hMd fun h₁ hP hSt hk₂ => ?_
      have k0 : ∀ a o, a ∉ wr → h'.get? a = some o → h₁.get? a = some o := fun a o na e => hk₂ a o na (hk a o na e)
      have k2 : ExB M h h₁ := fun a o na e => k0 a o (hold e).2 (hk' a o na e)
      have l1 : h₁.IsList D (List.toArray ys) := by obtain ⟨o, e, r⟩ := hl; exact ⟨o, k0 _ _ hDw e, r⟩
      have n1 : h₁.Ns cenv.locals m' := hn.at' fun o e => k0 _ o hCw e
      refine wpAny_mono (step i v h₁ tk₁ ys m' _ hlt hP (mono i h' h₁ ys hj (inB k0)) k2 n1 (by obtain ⟨o, e, _⟩ := l1; exact ⟨o, e⟩)) (fun _ s₂ h₂ => wpAny_mono h₂ (fun y s₄ h₄ => ?_) fun _ _ x => x) fun _ _ x => x
      obtain ⟨h₄, t₄, m₄, rfl, k4, n4, j4⟩ := h₄
      have l4 : h₄.IsList D (List.toArray ys) := by
        obtain ⟨o, e, r⟩ := l1
        exact ⟨o, k4 _ o (fun q => Nat.lt_irrefl _ (Nat.lt_of_lt_of_le (hM _ q) hBD)) (Nat.le_refl _) e, r⟩
      refine wpAny_list_append l4 (fun h₅ l5 hs5 => ?_) (sz24 (by rw [List.size_toArray]; omega))
      have k5 : ExB (· = D) h₄ h₅ := fun a o na e => hs5.extBut a o na e
      refine ⟨n - (i + 1), by omega, i + 1, h₅, t₄, ys ++ [y], m₄, hlt, rfl, rfl, ?_, ?_, by simpa using l5, by rw [List.length_append]; simp; omega, n4.at' fun o e => k5 _ o hCne e, mono _ _ _ _ j4 (fun a o na e => k5 a o (fun c => na (by rw [c]; exact ⟨hBD, Nat.le_succ _⟩)) e)⟩
      · exact W.frame _ _ _ hSt fun a ha o e => k5 a o (Nat.ne_of_lt (hfp a ha).1) (k4 a o (hfp a ha).2 (Nat.le_of_lt (hfp a ha).1) e)
      · exact fun a o na e => k5 a o (Nat.ne_of_lt (hold e).1) (k4 a o na (Nat.le_of_lt (hold e).1) (k2 a o na e))
    · obtain rfl : i = n := by omega
      refine W.done _ _ _ hs fun h₁ tk₁ hk => ?_
      exact done h₁ tk₁ ys m' (mono _ h' h₁ ys hj (inB hk)) hyl (fun a o na e => hk a o (hold e).2 (hk' a o na e)) (by obtain ⟨o, e, r⟩ := hl; exact ⟨o, hk _ _ hDw e, r⟩) (hn.at' fun o e => hk _ o hCw e)
  exact codeAny_compStart_list loop (self _ _ _ hS0 loop)

/-- what is wanted behind the source of a comprehension over pairs; h: what stood before the source was made -/
def PairQ (prog : Program) (w : World) (A : Around) (b : Shared) (env : Env) (scope : Scope) (cl : List (Str × Addr)) (elt target : Expr) (Q : Value → Addr → Heap → Nat → Prop) (xv : Value) (s₁ : Shared) : Prop :=
  ∃ (h hI : Heap) (t B I n : Nat) (P Md : Nat → Value → Heap → Prop) (S : Nat → Heap → Prop) (fp wr : List Addr) (M : Addr → Prop) (J : Nat → Heap → List Value → Prop), s₁ = St b hI t ∧ xv = .ref I ∧
    KTurns prog w A target I fp wr n P Md S ∧ (∀ (s : Shared) (Q : Value → Shared → Prop) (E : Value → Shared → Prop), S 0 s.heap → Q (.ref I) s → wpAny (model prog w) A (pyIter (.ref I)) Q E s) ∧
    n ≤ 1000000 ∧ (∀ a ∈ wr, B ≤ a) ∧ (∀ a ∈ fp, a < hI.objs.size ∧ ¬ M a) ∧ (∀ a, M a → a < B) ∧ S 0 hI ∧ h.objs.size ≤ B ∧ B ≤ hI.objs.size ∧ Ex h hI ∧ (∀ h', Ex hI h' → J 0 h' []) ∧
    (∀ i h₀ h₁ ys, J i h₀ ys → ExB (fun a => B ≤ a ∧ a ≤ hI.objs.size + 1) h₀ h₁ → J i h₁ ys) ∧
    (∀ i v h₁ t₁ ys m₁ (E' : Value → Shared → Prop), i < n → P i v h₁ → J i h₁ ys → ExB M h h₁ → h₁.Ns (hI.objs.size + 1) m₁ →
      wpAny (model prog w) A (assign target (compEnvC scope cl (hI.objs.size + 1) env) v) (fun _ s₂ =>
        wpAny (model prog w) A (eval elt (compEnvC scope cl (hI.objs.size + 1) env)) (fun y s₄ => ∃ h₄ t₄ m₄, s₄ = St b h₄ t₄ ∧ Kp M hI.objs.size h₁ h₄ ∧ h₄.Ns (hI.objs.size + 1) m₄ ∧ J (i + 1) h₄ (ys ++ [y])) E' s₂) E' (St b h₁ t₁)) ∧
    (∀ h₁ t₁ ys, J n h₁ ys → ys.length ≤ n → ExB M h h₁ → h₁.IsList hI.objs.size ys.toArray → Q (.ref hI.objs.size) (hI.objs.size + 1) h₁ t₁)

theorem pairBlock {elt target iter : Expr} {scope : Scope} {cl : List (Str × Addr)} {pos : Pos} {Q : Value → Addr → Heap → Nat → Prop} {RR : Value → Addr → Result → Shared → Prop} {xv : Value} {s₁ : Shared}
    (hcell : (scope.names.all fun x => decide (x.2 ≠ .cell)) = true) (hkind : scope.kind = .function) (q : PairQ prog w A b env scope cl elt target Q xv s₁)
    (hR : ∀ C D h₁ t₁ m₁, h₁.Ns C m₁ → D ≠ C → (∃ o, h₁.get? D = some o) → Q (.ref D) C h₁ t₁ → RR (.ref D) C (.ok .next) (St b h₁ t₁)) :
    wpAny (model prog w) A (pyIter xv) (fun it s₂ => wpAny (model prog w) A (newList []) (fun acc s₃ => wpAny (model prog w) A (newFunctionEnv scope env.globals cl [] env.qual none .none (some env)) (fun cenv s₄ =>
      codeAny (model prog w) A (.compStart (.ListComp elt [⟨target, iter, [], 0⟩] scope pos) 0 it acc { cenv with scope := relabel scope env }) (RR acc cenv.locals) s₄) E s₃) E s₂) E s₁ := by
  obtain ⟨h, hI, t, B, I, n, P, Md, S, fp, wr, M, J, rfl, rfl, W, self, hsz, hwr, hfp, hM, S0, hBh, hBI, hx, h0, mono, step, done⟩ := q
  refine self _ _ _ S0 ?_
  refine wpAny_newObj_type ?_ (by show _ ≤ sizeLine; exact sz24 (Nat.zero_le _))
  refine wpAny_newFunctionEnv (fun x hx => of_decide_eq_true (List.all_eq_true.mp hcell x hx)) (by intro y hy; simp at hy) (fun h₃ n₃ s₃ => ?_) hkind
  dsimp only at n₃ s₃ ⊢
  generalize hH : hI.push { cls := .type "list", data := .seq ([] : List Value).toArray } = H at n₃ s₃ ⊢
  have hHs : H.objs.size = hI.objs.size + 1 := by rw [← hH, Heap.size_push]
  have kH : Ex hI H := hH ▸ Ex.push _ _
  have k3 : Ex H h₃ := fun a o e => s₃.extBut a o (Nat.ne_of_lt (Heap.lt_size e)) (Heap.get?_push_of_some _ e)
  have k3' : Ex hI h₃ := kH.trans k3
  have lD : h₃.IsList hI.objs.size #[] := by
    have : H.IsList hI.objs.size #[] := hH ▸ push_list _ _
    exact (k3.lst this)
  rw [hHs] at n₃ ⊢
  refine compT (h := h) (b := b) (B := B) (cenv := compEnvC scope cl (hI.objs.size + 1) env) M J W self hsz (fun a ha => ⟨hwr a ha, (hfp a (W.sub a ha)).1⟩) hfp hM (W.frame 0 _ _ S0 fun a _ o e => k3' a o e) hBh hBI (hx.trans k3') lD n₃ rfl (h0 _ k3') mono
    (fun i v h₁ t₁ ys m₁ E' hi hP hJ k hn _ => step i v h₁ t₁ ys m₁ E' hi hP hJ k hn) (fun h₁ t₁ ys m₁ hJ hy k hl hn => ?_)
  exact hR _ _ h₁ t₁ m₁ hn (Nat.ne_of_lt (Nat.lt_succ_self _)) (by obtain ⟨o, e, _⟩ := hl; exact ⟨o, e⟩) (done h₁ t₁ ys hJ hy k hl)

theorem pairE {elt target iter : Expr} {scope : Scope} {cl : List (Str × Addr)} {pos : Pos} {Q : Value → Shared → Prop} {s : Shared}
    (q : wpAny (model prog w) A (eval iter env) (PairQ prog w A b env scope cl elt target (fun v C h t => ∀ h', ExB (· = C) h h' → Q v (St b h' t))) E s)
    (hclos : closureFor scope env = pure cl := by rfl) (hcell : (scope.names.all fun x => decide (x.2 ≠ .cell)) = true := by rfl) (hkind : scope.kind = .function := by rfl)
    (hnames : (scope.names.all fun x => decide (x.2 = .local → scope.names.lookup x.1 = some .local)) = true := by rfl) (hs : ∀ x, foldedSetIterable iter env x = pure x := by intro _; rfl) :
    wpAny (model prog w) A (eval (.ListComp elt [⟨target, iter, [], 0⟩] scope pos) env) Q E s := by
  rw [eval_ListComp]
  refine wpAny_comprehension_free (use := none) rfl hs hclos hkind (fun x hx => of_decide_eq_true (List.all_eq_true.mp hnames x hx)) (wpAny_mono q (fun xv s₁ q₁ => ?_) fun _ _ x => x)
  refine pairBlock hcell hkind q₁ fun C D h₁ t₁ m₁ hn _ _ q₂ => ?_
  exact ⟨m₁, hn, fun h' hs' => q₂ h' fun a o na e => hs'.extBut a o na e⟩

theorem pairA {elt target iter : Expr} {scope : Scope} {cl : List (Str × Addr)} {x : Str} {px pos spos : Pos} {Q : Flow → Shared → Prop} {s : Shared}
    (q : wpAny (model prog w) A (eval iter env) (PairQ prog w A b env scope cl elt target (fun v C h t => env.locals ≠ C ∧ ∃ m, h.Ns env.locals m ∧ ∀ h', h'.Ns env.locals (fun y => if y = x then some v else m y) → ExB (fun a => a = env.locals ∨ a = C) h h' → Q .next (St b h' (t + 1)))) E s)
    (hsw : swapsWith (.ListComp elt [⟨target, iter, [], 0⟩] scope pos) (some (.Name x px)) spos.line env = pure true := by rfl)
    (hx : env.kindOf x = some .local := by with_unfolding_all rfl) (hk : env.scope.kind = .function := by rfl)
    (hclos : closureFor scope env = pure cl := by rfl) (hcell : (scope.names.all fun x => decide (x.2 ≠ .cell)) = true := by rfl) (hkind : scope.kind = .function := by rfl)
    (hnames : (scope.names.all fun x => decide (x.2 = .local → scope.names.lookup x.1 = some .local)) = true := by rfl) (hs : ∀ x, foldedSetIterable iter env x = pure x := by intro _; rfl) :
    wpAny (model prog w) A (exec (.Assign [.Name x px] (.ListComp elt [⟨target, iter, [], 0⟩] scope pos) spos) env) Q E s := by
  exact asgComp hsw hclos hkind hnames hs (wpAny_mono q (fun _ _ src => pairBlock hcell hkind src fun _ _ _ _ _ hC _ _ z => bindEnd hC z hx hk) fun _ _ z => z)
end
end
end Mine

namespace Mine
section
open PySem PySem.W PyProof.Rows PySem.SeqAt
def allBut (h : Heap) (L : Addr) : List (Addr × Obj) := (List.range h.objs.size).filterMap fun a => if a = L then none else (h.get? a).map fun o => (a, o)
theorem mem_allBut {h : Heap} {L a : Addr} {o : Obj} : (a, o) ∈ allBut h L ↔ a ≠ L ∧ h.get? a = some o := by
  unfold allBut
  rw [List.mem_filterMap]
  constructor
  · rintro ⟨x, hx, e⟩
    by_cases c : x = L
    · rw [if_pos c] at e; cases e
    · rw [if_neg c] at e
      cases q : h.get? x with
      | none => rw [q] at e; cases e
      | some o' => rw [q] at e; cases e; exact ⟨c, q⟩
  · rintro ⟨n, e⟩
    exact ⟨a, List.mem_range.mpr (Heap.lt_size e), by rw [if_neg n, e]; rfl⟩
theorem get_nil (a : Addr) : ({} : Heap).get? a = none := rfl
theorem news_allBut {h₀ h : Heap} {L : Addr} (z : h₀ = {}) : News h₀ L h (allBut h L) := by
  rintro ⟨a, o⟩ hp
  obtain ⟨n, e⟩ := mem_allBut.mp hp
  exact ⟨e, n, by rw [z]; rfl⟩
theorem allBut_keep {h₀ h h' : Heap} {L : Addr} {own : List (Addr × Obj)} (N : News h₀ L h' (allBut h L ++ own)) : ExB (· = L) h h' :=
  fun a o n e => (N (a, o) (List.mem_append_left _ (mem_allBut.mpr ⟨n, e⟩))).1

section
variable {prog : Program} {w : World} {A : Around} {E : Value → Shared → Prop} {s : Shared}
/-- the drawn items of range(n) are its numbers -/
theorem rangeInts {n : Nat} {acc' : Array Value} (hacc : ItemsOf (fun i v => ∃ t, v = .int (0 + (i : Int) * 1) t) acc' n) : IntsAre acc'.toList ((List.range n).map fun k : Nat => (k : Int)) := by
  have key : ∀ (l : List Value) (k : Nat), (∀ (i : Nat) v, l[i]? = some v → ∃ t : Tok, v = Value.int ((k : Int) + (i : Int)) t) → IntsAre l ((List.range' k l.length).map fun k : Nat => (k : Int)) := by
    intro l
    induction l with
    | nil => intro k _; exact .nil
    | cons v r ih =>
      intro k hv
      obtain ⟨t, rfl⟩ := hv 0 v rfl
      rw [List.length_cons, List.range'_succ, List.map_cons]
      have e : ((k : Int) + ((0 : Nat) : Int)) = ((k : Nat) : Int) := by omega
      rw [e]
      refine .cons _ _ (ih (k + 1) fun i v hi => ?_)
      obtain ⟨t, e⟩ := hv (i + 1) v (by simpa using hi)
      exact ⟨t, by rw [e]; congr 1; omega⟩
  have hl : acc'.toList.length = n := by rw [Array.length_toList]; exact hacc.1
  rw [List.range_eq_range', ← hl]
  refine key _ 0 fun i v hi => ?_
  have hi' : i < n := by rw [← hl]; exact (List.getElem?_eq_some_iff.mp hi).1
  have : acc'[i]? = some v := by simpa using hi
  obtain ⟨t, e2⟩ := hacc.2 i v this
  exact ⟨t, by rw [e2]; congr 1; omega⟩
theorem collect_range {r : Addr} {t1 t2 t3 : Tok} {n : Nat} {Q : List Value → Shared → Prop} (hh : A.handled = none) (hr : IsRange s.heap r 0 (n : Int) 1 t1 t2 t3) (hz : n ≤ 1000)
    (h : ∀ h' tk vs, (∀ b o, s.heap.get? b = some o → h'.get? b = some o) → IntsAre vs ((List.range n).map fun k : Nat => (k : Int)) → Q vs { s with heap := h', toks := tk }) :
    wpAny (model prog w) A (collect (.ref r)) Q E s := by
  have size : Builtin.Range.rangeSize 0 (n : Int) 1 = (n : Int) := by rw [rangeSize_one]; split <;> omega
  -- the list that is filled, behind its filling
  let Filled (q : Result) (s' : Shared) : Prop := ∃ h' tk xs c, q = .ok (.ret (.ref s.heap.objs.size)) ∧ s' = { s with heap := h', toks := tk } ∧ Ex s.heap h' ∧ h'.get? s.heap.objs.size = some { cls := .type "list", data := .seq xs c } ∧
    IntsAre xs.toList ((List.range n).map fun k : Nat => (k : Int))
  have filling := wpAny_extend_range (prog := prog) (w := w) (A := A) (R := Filled) (s := { s with heap := s.heap.push { cls := .type "list", data := .seq ([] : List Value).toArray } }) hh (Ex.push _ _ _ _ hr) (small_one (by omega) (by omega) (by omega) (by omega)) size (by omega)
    s.heap.objs.size (.ref s.heap.objs.size) 0 (Heap.get?_push_size _ rfl) fun h' tk xs c k e i => ⟨h', tk, xs, c, rfl, rfl, fun a o ea => k a o (Nat.ne_of_lt (Heap.lt_size ea)) (Ex.push _ _ _ _ ea), e, rangeInts i⟩
  -- what is read from it
  have reading : ∀ q s', Filled q s' → ∃ a h' tk xs c, q = .ok (.ret (.ref a)) ∧ s' = { s with heap := h', toks := tk } ∧ h'.get? a = some { cls := .type "list", data := .seq xs c } ∧ Q xs.toList { s with heap := h', toks := tk } :=
    fun q s' ⟨h', tk, xs, c, e1, e2, k, e3, i⟩ => ⟨_, h', tk, xs, c, e1, e2, e3, h h' tk _ k i⟩
  unfold collect
  refine wpAny_bind (wpAny_runValue (codeAny_mono (R := Filled) ?_ fun q s' z => ?_))
  · refine codeAny_builtin entry_proto_collect' ?_
    rw [Around.under_plainId F.plain_proto_collect]
    refine wpAny_bind (m := newList []) (wpAny_newObj_type (wpAny_pure ⟨plainId_quiet F.plain_list_iadd _, codeAny_builtin entry_list_iadd' ?_⟩))
    rw [Around.under_plainId F.plain_list_iadd]
    exact filling
  · obtain ⟨a, h', tk, xs, c, rfl, rfl, e, q⟩ := reading q s' z
    exact wpAny_bind (wpAny_load e (wpAny_pure q))

theorem perm_nums {kz : List Int} {n : Nat} {vs out : List Value} (hi : IntsAre vs ((List.range n).map fun k : Nat => (k : Int))) (hz : kz.length = n) (ko : KskOut false kz vs out) :
    ∃ ns : List Nat, IntsAre out (ns.map fun k : Nat => (k : Int)) ∧ ns.Perm (List.range n) ∧ ns.Pairwise (fun x y => kz.getD x 0 ≤ kz.getD y 0) := by
  obtain ⟨ps, hp, rfl, hs⟩ := ko
  have hvl : vs.length = n := by rw [hi.length]; simp
  have hpair : ∀ p ∈ kz.zip vs, ∃ k t, k < n ∧ p = (kz.getD k 0, Value.int (k : Int) t) := by
    intro p hp
    obtain ⟨i, hi1, e⟩ := List.getElem_of_mem hp
    have h1 : i < n := by rw [List.length_zip] at hi1; omega
    obtain ⟨t, e2⟩ := hi.int_at i vs[i] (List.getElem?_eq_getElem (by omega))
    refine ⟨i, t, h1, ?_⟩
    rw [← e, List.getElem_zip, e2]
    have e3 : kz[i] = kz.getD i 0 := by simp [hz, h1]
    rw [e3]
    congr 2
    simp [h1]
  have hfac : ∀ p ∈ ps, ∃ k t, k < n ∧ p = (kz.getD k 0, Value.int (k : Int) t) := fun p q => hpair p (hp.mem_iff.mp q)
  refine ⟨(ps.map Prod.snd).map fun v => (numOf v).toNat, ?_, ?_, ?_⟩
  · clear hp hs
    induction ps with
    | nil => exact .nil
    | cons p r ih =>
      obtain ⟨k, t, _, rfl⟩ := hfac p (List.mem_cons_self ..)
      exact .cons (k : Int) t (ih fun q hq => hfac q (List.mem_cons_of_mem _ hq))
  · have h1 : (((ps.map Prod.snd).map numOf).map Int.toNat).Perm (((List.range n).map fun k : Nat => (k : Int)).map Int.toNat) := by
      refine List.Perm.map _ ?_
      have h2 := (hp.map Prod.snd).map numOf
      rwa [List.map_snd_zip (by omega), hi.nums] at h2
    rw [List.map_map] at h1
    have e : ((List.range n).map (Int.toNat ∘ fun k : Nat => (k : Int))) = List.range n := by
      rw [show (Int.toNat ∘ fun k : Nat => (k : Int)) = id from by funext k; simp]; simp
    rw [List.map_map]
    have h3 : ((List.range n).map fun k : Nat => (k : Int)).map Int.toNat = List.range n := by rw [List.map_map, e]
    rw [h3, List.map_map] at h1
    exact h1
  · rw [List.map_map, List.pairwise_map]
    refine hs.imp_of_mem fun {p q} hp' hq' hr => ?_
    obtain ⟨k, t, _, rfl⟩ := hfac p hp'
    obtain ⟨j, u, _, rfl⟩ := hfac q hq'
    have back : ∀ (i : Nat) (v : Tok), (numOf (.int (i : Int) v)).toNat = i := fun _ _ => rfl
    simpa only [Function.comp_apply, back, Bool.false_eq_true, if_false] using hr
end

section
variable {prog : Program} {w : World} {A : Around} {E : Value → Shared → Prop} {env : Env} {b : Shared} {h : Heap} {t : Nat} {mg mb : Str → Option Value} {g : Heap}
/-- sorted(range(n), key=f) -/
theorem sortK {r f L : Addr} {t1 t2 t3 : Tok} {n : Nat} {kz : List Int} {m : Str → Option Value} {Q : Value → Shared → Prop} (hh : A.handled = none) (hr : IsRange h r 0 (n : Int) 1 t1 t2 t3) (hn : n < 64) (hz : kz.length = n) (hL : h.Ns L m)
    (turn : ∀ (i : Nat) (u : Tok) h' tk, i < n → ExB (· = L) h h' → h'.Ns L m →
      wpAny (model prog w) A.in1.in1 (call (.ref f) [.int (i : Int) u]) (fun v s => ∃ h'' tk' t', v = .int (kz.getD i 0) t' ∧ s = St b h'' tk' ∧ Ex h' h'') (fun _ _ => False) (St b h' tk))
    (q : ∀ D h' tk ns, ExB (· = L) h h' → h'.Ns L m → h.get? D = none → D ≠ L → IntsL h' D ns → ns.Perm (List.range n) → ns.Pairwise (fun x y => kz.getD x 0 ≤ kz.getD y 0) → Q (.ref D) (St b h' tk)) :
    wpAny (model prog w) A (call (.builtin "sorted") [.ref r] [(Str.ofString "key", .ref f)]) Q E (St b h t) := by
  refine call_function_entry_kw kind_sorted plain_sorted entry_sorted (ksk_s1 _ _) ?_
  unfold Builtin.«sorted»
  refine wpAny_bind (m := checkCount "sorted" 1 1 _) (wpAny_pure ?_)
  refine wpAny_bind (collect_range (s := St b h t) hh hr (by omega) fun h₁ tk₁ vs k₁ hi => ?_)
  have hvl : vs.length = n := by rw [hi.length]; simp
  refine wpAny_bind (wpAny_newList ?_ (by rw [sizeLine_eq]; omega))
  have hn1 : h₁.Ns L m := hL.keeps k₁
  have hLs : L < h₁.objs.size := hn1.lt
  have hn2 : (h₁.push (seqObj "list" vs.toArray 0)).Ns L m := hn1.push _
  have hoL : (h₁.push (seqObj "list" vs.toArray 0)).get? h₁.objs.size = some (seqObj "list" vs.toArray 0) := Heap.get?_push_size _ rfl
  have hfresh : ∀ p ∈ allBut h₁ L, p.1 ≠ h₁.objs.size := fun ⟨a, o⟩ hp => Nat.ne_of_lt (Heap.lt_size (mem_allBut.mp hp).2)
  have N : News ({} : Heap) L (h₁.push (seqObj "list" vs.toArray 0)) (allBut h₁ L) := fun p hp => by
    obtain ⟨a1, a2, a3⟩ := news_allBut (h₀ := {}) (h := h₁) (L := L) rfl p hp
    exact ⟨Heap.get?_push_of_some _ a1, a2, a3⟩
  have F : Fr ({} : Heap) L (h₁.push (seqObj "list" vs.toArray 0)) m := ⟨hn2, fun b o e => (by rw [get_nil] at e; cases e), Nat.zero_le _⟩
  show wpAny _ _ _ _ _ (St b (h₁.push (seqObj "list" vs.toArray 0)) tk₁)
  refine wpAny_bind (wpAny_holding (wpAny_call_entry_kw slot_list_sort ⟨_, hoL, rfl⟩ entry_list_sort ?body (ksk_l1 _ _)))
  case body =>
    have ht' := ksk_t1 f h₁.objs.size
    show wpAny (model prog w) A.in1.in1 (Builtin.«list.sort» ⟨[.ref h₁.objs.size], [(Str.ofString "key", .ref f)]⟩) _ _ _
    rw [ht']
    refine ksk_sort (kz := kz) (s := St b (h₁.push (seqObj "list" vs.toArray 0)) tk₁) F N hoL (Nat.ne_of_gt hLs) (by rfl) hfresh (by omega) (by omega)
      (fun i v k hv hk h₂ tk₂ own F₂ N₂ => ?_) fun h₂ tk₂ out c F₂ N₂ ko => ⟨_, rfl, ?_⟩
    · obtain ⟨u, rfl⟩ := hi.int_at i v (by simpa using hv)
      have hin : i < n := by rw [← hvl]; exact (List.getElem?_eq_some_iff.mp hv).1
      have e : (((List.range n).map fun k : Nat => (k : Int)).getD i 0) = (i : Int) := by simp [hin]
      rw [e]
      have k₂ : ExB (· = L) h₁ h₂ := allBut_keep N₂
      have ek : k = kz.getD i 0 := by rw [List.getD_eq_getElem?_getD, hk]; rfl
      refine wpAny_mono (turn i u h₂ tk₂ hin (fun a o na e => k₂ a o na (k₁ a o e)) F₂.ns) (fun v s hv => ?_) fun _ _ x => x
      obtain ⟨h₃, tk₃, t₃, rfl, rfl, k₃⟩ := hv
      exact ⟨h₃, tk₃, t₃, rfl, by rw [ek], ⟨F₂.ns.keeps k₃, fun b o e => (by rw [get_nil] at e; cases e), Nat.zero_le _⟩, fun p hp => ⟨k₃ _ _ (N₂ p hp).1, (N₂ p hp).2⟩⟩
    · refine wpAny_pure ⟨_, rfl, ?_⟩
      obtain ⟨ns, i1, i2, i3⟩ := perm_nums hi hz ko
      have k₂ : ExB (· = L) h₁ h₂ := fun a o na e => (N₂ (a, o) (List.mem_cons_of_mem _ (mem_allBut.mpr ⟨na, e⟩))).1
      refine q h₁.objs.size h₂ tk₂ ns (fun a o na e => k₂ a o na (k₁ a o e)) F₂.ns ?_ (Nat.ne_of_gt hLs) ⟨out.toList, ?_, i1⟩ i2 i3
      · cases e : h.get? h₁.objs.size with
        | none => rfl
        | some o => exact absurd (Heap.lt_size (k₁ _ _ e)) (Nat.lt_irrefl _)
      · have := (N₂ (h₁.objs.size, seqObj "list" out c) (List.mem_cons_self ..)).1
        exact ⟨_, this, rfl, c, by simp⟩

theorem call_lam {f c' : Addr} {name qual : Str} {params : Arguments} {body : Expr} {scope : Scope} {cl : List (Str × Addr)} {pm ctv : Value} {args : List Value} {binds : List (Str × Value)} {Q : Value → Shared → Prop}
    (G : Gd w mg mb g) (k : Ex g h) (hf : h.get? f = some (kla_obj name qual params body scope cl pm c' ctv)) (hcd : h.CodeRec (.ref c') qual) (hroom : A.depth < recursionLimit)
    (hbind : bindArgs (kla_fn name qual params body scope cl pm (.ref c') ctv) ⟨args, []⟩ = pure binds) (hloc : ∀ y ∈ binds, scope.names.lookup y.1 = some .local)
    (hco : scope.isCoroutine = false) (hgen : scope.isGenerator = false) (hk : scope.kind = .function) (hcell : ∀ x ∈ scope.names, x.2 ≠ .cell)
    (q : ∀ h₀, h₀.Ns h.objs.size (fun x => binds.reverse.lookup x) → Ex h h₀ →
      wpAny (model prog w) (A.deeper (envX qual scope h.objs.size f (.ref c') cl)) (eval body (envX qual scope h.objs.size f (.ref c') cl)) Q (fun _ _ => False) (St b h₀ (t + binds.length))) :
    wpAny (model prog w) A (call (.ref f) args) Q E (St b h t) := by
  obtain ⟨p, loose, mean, T⟩ := G.T
  refine wpAny_call (kla_callFunE (s := St b h t) hroom hf rfl hco hgen rfl hcd ?_)
  rw [hbind]
  refine wpAny_pure (wpAny_newFunctionEnv hcell hloc (fun h₁ hns hsb => ⟨((T.nolimit).keeps k).fresh _ hsb, ?_⟩) hk)
  have hk₁ : Ex h h₁ := fun b o e => hsb.extBut b o (Nat.ne_of_lt (Heap.lt_size e)) (Heap.get?_push_of_some _ e)
  show codeAny _ _ (.expr body (envX qual scope h.objs.size f (.ref c') cl)) _ _
  exact kla_codeExpr (wpAny_mono (q h₁ hns hk₁) (fun _ _ x => x) fun _ _ x => x.elim)
end
end
end Mine

namespace Mine
section
open PySem PySem.W PyProof.Rows PySem.SeqAt
def SliceQ (b : Shared) (Q : Value → Shared → Prop) (o vl vu vs : Value) (s : Shared) : Prop :=
  ∃ l items lo hi st h t, o = .ref l ∧ s = St b h t ∧ h.IsList l items ∧ items.size ≤ 1000000 ∧ IsPart vl lo ∧ IsPart vu hi ∧ IsPart vs st ∧ st ≠ some 0 ∧
    ∀ D h', Ex h h' → h.get? D = none → h'.IsList D (slicePick items lo hi st) → Q (.ref D) (St b h' t)

section
variable {prog : Program} {w : World} {A : Around} {E : Value → Shared → Prop} {env : Env} {b : Shared} {h : Heap} {t : Nat} {mg mb : Str → Option Value} {g : Heap}
/-- an object, a slice's two ends, and what is wanted behind them, turned into what is to be shown -/
theorem ends {value : Expr} {lower upper : Option Expr} {F H : Value → Value → Value → Shared → Prop} {s : Shared} (turn : ∀ o vl vu s', F o vl vu s' → H o vl vu s')
    (q : wpAny (model prog w) A (eval value env) (fun o s₁ => wpAny (model prog w) A (evalPart lower env) (fun vl s₂ => wpAny (model prog w) A (evalPart upper env) (F o vl) E s₂) E s₁) E s) :
    wpAny (model prog w) A (eval value env) (fun o s₁ => wpAny (model prog w) A (evalPart lower env) (fun vl s₂ => wpAny (model prog w) A (evalPart upper env) (H o vl) E s₂) E s₁) E s := by
  apply wpAny_mono q _ fun _ _ e => e
  intro o s₁ q₁
  apply wpAny_mono q₁ _ fun _ _ e => e
  intro vl s₂ q₂
  exact wpAny_mono q₂ (turn o vl) fun _ _ e => e
/-- the item of a slice that has just been made -/
theorem sliced {o vl vu vs : Value} {Q : Value → Shared → Prop} {s₃ : Shared} (z : SliceQ b Q o vl vu vs s₃) :
    Shared.TypeIs { s₃ with heap := s₃.heap.push { cls := .type "slice", data := .fields #[vl, vu, vs] } } o "list" ∧
    wpAny (model prog w) A (getItem o (.ref s₃.heap.objs.size)) Q E { s₃ with heap := s₃.heap.push { cls := .type "slice", data := .fields #[vl, vu, vs] } } := by
  obtain ⟨l, items, lo, hi, st, h, t, rfl, rfl, hl, hz, pl, pu, ps, h0, q⟩ := z
  have hl' := hl.push { cls := .type "slice", data := .fields #[vl, vu, vs] }
  have unseen : h.get? (h.push { cls := .type "slice", data := .fields #[vl, vu, vs] }).objs.size = none := Heap.get?_none_of_le (by rw [Heap.size_push]; exact Nat.le_succ _)
  exact ⟨hl'.typeIs, wpAny_getItem_list_slice hl' (Heap.IsSliceOf.new ..) pl pu ps h0 (q _ _ ((Ex.push _ _).trans (Ex.push _ _)) unseen (push_list _ _)) (sz24 hz)⟩
theorem subS {value : Expr} {lower upper : Option Expr} {p pos : Pos} {Q : Value → Shared → Prop} {s : Shared}
    (q : wpAny (model prog w) A (eval value env) (fun o s₁ => wpAny (model prog w) A (evalPart lower env) (fun vl s₂ => wpAny (model prog w) A (evalPart upper env) (fun vu s₃ => SliceQ b Q o vl vu .none s₃) E s₂) E s₁) E s)
    (ht : ∀ o r, letTemporaryGo value o r = pure () := by intro _ _; rfl) :
    wpAny (model prog w) A (eval (.Subscript value (.Slice lower upper none p) pos) env) Q E s :=
  wpAny_Subscript_Slice (T := "list") list_getitem_lookup (wpAny_mono (ends (fun _ _ _ _ z => by rw [evalPart_none]; exact wpAny_pure (sliced z)) q) (fun _ _ z => wpAny_Slice z) fun _ _ e => e) ht
theorem subSS {value step : Expr} {lower upper : Option Expr} {p pos : Pos} {Q : Value → Shared → Prop} {s : Shared}
    (q : wpAny (model prog w) A (eval value env) (fun o s₁ => wpAny (model prog w) A (evalPart lower env) (fun vl s₂ => wpAny (model prog w) A (evalPart upper env) (fun vu s₃ => wpAny (model prog w) A (eval step env) (fun vs s₄ => SliceQ b Q o vl vu vs s₄) E s₃) E s₂) E s₁) E s)
    (ht : ∀ o r, letTemporaryGo value o r = pure () := by intro _ _; rfl) :
    wpAny (model prog w) A (eval (.Subscript value (.Slice lower upper (some step) p) pos) env) Q E s :=
  wpAny_Subscript_Slice_step (T := "list") list_getitem_lookup (wpAny_mono (ends (fun _ _ _ _ z => wpAny_mono z (fun _ _ z => sliced z) fun _ _ e => e) q) (fun _ _ z => wpAny_Slice z) fun _ _ e => e) ht
theorem partN {Q : Value → Shared → Prop} {s : Shared} (q : Q .none s) : wpAny (model prog w) A (evalPart none env) Q E s := wpAny_pure q
theorem partS {e : Expr} {Q : Value → Shared → Prop} {s : Shared} (q : wpAny (model prog w) A (eval e env) Q E s) : wpAny (model prog w) A (evalPart (some e) env) Q E s := q
theorem pick_mem {items : Array Value} {lo hi st : Option Int} {v : Value} (hv : v ∈ (slicePick items lo hi st).toList) : v ∈ items.toList := by
  unfold slicePick at hv
  rw [List.toList_toArray, List.mem_filterMap] at hv
  obtain ⟨i, _, e⟩ := hv
  exact Array.mem_toList_iff.mpr (Array.mem_of_getElem? e)
theorem pick_ints {vs : List Value} {ns : List Int} (hi : IntsAre vs ns) {lo hi' st : Option Int} : ∃ ms, IntsAre (slicePick vs.toArray lo hi' st).toList ms ∧ ∀ m ∈ ms, m ∈ ns := by
  refine ⟨_, intsAre_map _ fun v hv => hi.all v (pick_mem hv), fun m hm => ?_⟩
  obtain ⟨v, hv, rfl⟩ := List.mem_map.mp hm
  have := pick_mem hv
  rw [← hi.nums]
  exact List.mem_map_of_mem this

theorem addS {x y : Str} {u v : Tok} {Q : Value → Shared → Prop} (hz : x.cps.size + y.cps.size ≤ 1000) (q : ∀ z t' tk, z.cps.toList = x.cps.toList ++ y.cps.toList → Q (.str z t') (St b h tk)) : wpAny (model prog w) A (binaryOp .Add (.str x u) (.str y v)) Q E (St b h t) :=
  PyProof.Rows.add_str (fun t' tk => q _ t' tk (by show (Str.append x y).cps.toList = _; simp [Str.append])) (by show x.cps.size + y.cps.size ≤ _; rw [sizeLine_eq]; omega)
theorem mulS {x : Str} {n : Int} {u v : Tok} {Q : Value → Shared → Prop} (hx : x.cps.toList = [32]) (h0 : 0 ≤ n) (h1 : n ≤ 100) (q : ∀ z t' tk, z.cps.toList = List.replicate n.toNat 32 → Q (.str z t') (St b h tk)) : wpAny (model prog w) A (binaryOp .Mult (.str x u) (.int n v)) Q E (St b h t) := by
  have hl : x.length = 1 := by show x.cps.size = 1; rw [← Array.length_toList, hx]; rfl
  refine SB.mul ⟨?_, fun _ _ => ?_, fun _ _ => ?_⟩ fun t' k => q _ t' k ?_
  · rw [decide_eq_false (by omega), decide_eq_false (by omega)]; rfl
  · rw [hl]
    have : ((2 ^ 63 - 1 : Int)) / n ≥ 1 := by
      apply Int.le_ediv_of_mul_le <;> omega
    omega
  · rw [hl]; unfold Builtin.Str.tooLong; rw [decide_eq_false]; rw [sizeLine_eq]; omega
  · unfold Txt.mul
    by_cases c : n < 1
    · rw [if_pos c]
      have : n.toNat = 0 := by omega
      rw [this]; rfl
    · rw [if_neg c]
      by_cases d : (n == 1 || x.length == 0) = true
      · rw [if_pos d]
        have : n = 1 := by simpa [hl] using d
        subst this
        exact hx
      · rw [if_neg d]
        have hf : ∀ (k : Nat) (a : Array Nat), ((List.replicate k x.cps).foldl (· ++ ·) a).toList = a.toList ++ List.replicate k 32 := by
          intro k
          induction k with
          | zero => intro a; simp
          | succ k ih => intro a; rw [List.replicate_succ, List.foldl_cons, ih, Array.toList_append, hx, List.append_assoc]; rfl
        rw [hf]; rfl
theorem joinS {D : Addr} {vs : List Value} {ys : List Str} {x : Str} {u : Tok} {Q : Value → Shared → Prop} (hl : h.IsList D vs.toArray) (hi : StrsAre vs ys) (hx : x.cps.toList = []) (hz : (ys.map fun y => y.cps.size).sum ≤ 1000)
    (q : ∀ z t' tk, z.cps.toList = (ys.map fun y => y.cps.toList).flatten → Q (.str z t') (St b h tk)) : wpAny (model prog w) A (call (.builtin "str.join") [.str x u, .ref D]) Q E (St b h t) := by
  have hl0 : x.length = 0 := by show x.cps.size = 0; rw [← Array.length_toList, hx]; rfl
  refine join_list (s := St b h t) hl hi (by rw [hl0]; show (ys.map fun y => y.cps.size).sum + _ ≤ _; omega) fun t' k => q _ t' k ?_
  have hj : ∀ ys : List Str, (Str.join x ys).cps.toList = (ys.map fun y => y.cps.toList).flatten := by
    intro ys
    induction ys with
    | nil => rfl
    | cons y r ih =>
      cases r with
      | nil => show y.cps.toList = _; simp
      | cons z r =>
        show (Str.append (Str.append y x) (Str.join x (z :: r))).cps.toList = _
        rw [List.map_cons, List.flatten_cons, ← ih]
        simp [Str.append, hx]
  have e : Txt.join x ys = Str.join x ys := eq_of_beq (join_closes rfl)
  rw [e]
  exact hj ys

/-- a plain list of ours: no dict -/
def PL (h : Heap) (a : Addr) (its : List Value) : Prop := ∃ n, h.get? a = some { cls := .type "list", data := .seq its.toArray n }
theorem PL.is {a : Addr} {its : List Value} (x : PL h a its) : h.IsList a its.toArray := let ⟨n, e⟩ := x; ⟨_, e, rfl, n, rfl⟩
theorem PL.ex {h' : Heap} {a : Addr} {its : List Value} (x : PL h a its) (k : Ex h h') : PL h' a its := let ⟨n, e⟩ := x; ⟨n, k _ _ e⟩
theorem PL.but {h' : Heap} {a : Addr} {its : List Value} {W : Addr → Prop} (x : PL h a its) (k : ExB W h h') (n : ¬ W a) : PL h' a its := let ⟨m, e⟩ := x; ⟨m, k _ _ n e⟩
theorem nPL {vs : List Value} {Q : Value → Shared → Prop} (hz : vs.length ≤ 1000000) (q : ∀ h', Ex h h' → PL h' h.objs.size vs → Q (.ref h.objs.size) (St b h' t)) : wpAny (model prog w) A (newList vs) Q E (St b h t) :=
  wpAny_newList (q _ (Ex.push _ _) ⟨_, Heap.get?_push_size _ rfl⟩) (sz24 hz)
theorem methA {l : Addr} {its : List Value} {pl : Sem Bool} {Q : Value × List Value → Shared → Prop} (hl : PL h l its) (q : Q (.builtin "list.append", [.ref l]) (St b h t)) : wpAny (model prog w) A (getMethod (.ref l) "append" pl) Q E (St b h t) :=
  let ⟨_, e⟩ := hl
  Calls.getMethod_list_append (s := St b h t) e rfl rfl q
theorem appL {l : Addr} {its : List Value} {x : Value} {Q : Value → Shared → Prop} (hl : PL h l its) (hz : its.length ≤ 1000) (q : ∀ h', PL h' l (its ++ [x]) → ExB (· = l) h h' → Q .none (St b h' t)) : wpAny (model prog w) A (call (.builtin "list.append") [.ref l, x]) Q E (St b h t) := by
  obtain ⟨n, e⟩ := hl
  refine append_at (s := St b h t) e (fun h' hs he => q h' ⟨n + 1, by simpa using he⟩ fun a o na e => ?_) (by rw [List.size_toArray, sizeLine_eq]; omega)
  exact (hs.2 a na).trans e
end
end
end Mine

namespace Mine
section
open PySem PySem.W PyProof.Rows PySem.SeqAt
noncomputable abbrev LE (w : World) (L : Addr) : Env := callEnvC (fdAt (KK w) 104) L 104
noncomputable abbrev stm (w : World) (i : Nat) : Stmt := (bodyAt (KK w) 104).getD i (.Pass default)

section
variable {prog : Program} {w : World} {A : Around} {E : Value → Shared → Prop} {b : Shared} {h : Heap} {t : Nat} {mg mb : Str → Option Value} {g : Heap} {L : Addr} {m : Str → Option Value} {Q : Flow → Shared → Prop}

theorem st0 {sc : Addr} {vs : List Value} {ns : List Int} {c0 : Option Value} (hn : h.Ns L m) (hm : m "script" = some (.ref sc)) (hl : h.IsList sc vs.toArray) (hi : IntsAre vs ns) (hz : vs.length ≤ 1000) (hc : h.IsCell (L + 1) c0)
    (q : ∀ h' t' an ws ms, ExB (· = L + 1) h h' → h'.IsCell (L + 1) (some (.ref an)) → h'.IsList an (List.toArray ws) → IntsAre ws ms → an ≠ L + 1 → ws.length ≤ 1000 → Q .next (St b h' t')) :
    wpAny (model prog w) A (exec (stm w 0) (LE w L)) Q E (St b h t) := by
  refine asgC (x := "nums") (c := L + 1) ?_
  refine subS (b := b) ?_
  refine nmL hn hm ?_
  refine partN ?_
  refine partS ?_
  refine cInt ?_
  refine ⟨sc, vs.toArray, none, some 60, none, h, _, rfl, rfl, hl, by rw [List.size_toArray]; omega, .none, .int _ _, .none, by simp, fun D h₁ k₁ hD l₁ => ?_⟩
  refine ⟨h₁, _, _, rfl, CellX hc k₁, fun h₂ c₂ k₂ => ?_⟩
  obtain ⟨ms, i₁, _⟩ := pick_ints (lo := none) (hi' := some 60) (st := none) hi
  have hDn : D ≠ L + 1 := fun e => by obtain ⟨o, e1, _⟩ := hc; rw [← e, hD] at e1; cases e1
  refine q h₂ _ D _ ms (fun a o na e => k₂ a o na (k₁ a o e)) c₂ (LsB (by simpa using l₁) k₂ hDn) i₁ hDn ?_
  have := slicePick_size_le vs.toArray none (some 60) none
  have e : vs.toArray.size = vs.length := List.size_toArray ..
  rw [Array.length_toList]
  omega

theorem ints_items {vs : List Value} {ds : List Int} (hi : IntsAre vs ds) : ∃ xs : Array (Int × Tok), vs.toArray = intItems xs ∧ ∀ i, numAt xs i = ds.getD i 0 := by
  suffices ∃ l : List (Int × Tok), vs = l.map (fun p => Value.int p.1 p.2) ∧ l.map Prod.fst = ds by
    obtain ⟨l, rfl, rfl⟩ := this
    refine ⟨l.toArray, by simp [intItems], fun i => ?_⟩
    simp [numAt, List.getD_eq_getElem?_getD]
  induction hi with
  | nil => exact ⟨[], rfl, rfl⟩
  | cons n t _ ih => obtain ⟨l, rfl, rfl⟩ := ih; exact ⟨(n, t) :: l, rfl, rfl⟩
theorem preSum_nonneg {f : Nat → Int} (h : ∀ i, 0 ≤ f i) : ∀ n, 0 ≤ preSum f n
  | 0 => Int.le_refl _
  | n + 1 => Int.add_nonneg (preSum_nonneg h n) (h n)
theorem sumL {b : Shared} {h : Heap} {t : Nat} {l : Addr} {vs : List Value} {ds : List Int} {Q : Value → Shared → Prop} (hh : A.handled = none) (hl : h.IsList l vs.toArray) (hi : IntsAre vs ds) (h0 : ∀ d ∈ ds, 0 ≤ d)
    (q : ∀ h' tk t' x, Ex h h' → 0 ≤ x → Q (.int x t') (St b h' tk)) : wpAny (model prog w) A (call (.builtin "sum") [.ref l]) Q E (St b h t) := by
  obtain ⟨xs, e, hn⟩ := ints_items hi
  rw [e] at hl
  refine sum_intListG (s := St b h t) hh hl fun h' tk t' k => q h' tk t' _ k (preSum_nonneg (fun i => ?_) _)
  rw [hn]
  rw [List.getD_eq_getElem?_getD]
  cases e : ds[i]? with
  | none => exact Int.le_refl _
  | some d => exact h0 d (List.mem_of_getElem? e)
theorem ints_snoc {vs : List Value} {ds : List Int} (hi : IntsAre vs ds) (d : Int) (u : Tok) : IntsAre (vs ++ [.int d u]) (ds ++ [d]) := by
  induction hi with
  | nil => exact .cons _ _ .nil
  | cons n t _ ih => exact .cons _ _ ih

theorem st1 (G : Gd w mg mb g) (k : Ex g h) (hh : A.handled = none) {an : Addr} {ws : List Value} {ms : List Int} (hn : h.Ns L m) (hc : h.IsCell (L + 1) (some (.ref an))) (hl : h.IsList an ws.toArray) (hi : IntsAre ws ms) (hz : ws.length ≤ 1000)
    (q : ∀ h' t' ad vs ds, ExB (· = L) h h' → h'.Ns L (fun y => if y = "drawn" then some (.ref ad) else m y) → h'.IsList ad (List.toArray vs) → IntsAre vs ds → ds.length = 6 → (∀ d ∈ ds, 0 ≤ d) → ad ≠ L → h.get? ad = none → Q .next (St b h' t')) :
    wpAny (model prog w) A (exec (stm w 1) (LE w L)) Q E (St b h t) := by
  refine pairA (b := b) (x := "drawn") ?_
  refine Call_ ?_
  refine nmB (v := .type "enumerate") G k ?_
  refine PyProof.Rows.callWith_type1 ?_
  refine args_cons ?_
  refine Tuple_ ?_
  refine args_cons (cInt ?_)
  refine args_cons (cInt ?_)
  refine args_cons (cInt ?_)
  refine args_cons (cInt ?_)
  refine args_cons (cInt ?_)
  refine args_cons (cInt ?_)
  refine args_nil ?_
  refine nTuple (Nat.le_of_ble_eq_true rfl) fun h₁ k₁ l₁ => ?_
  refine args_nil ?_
  refine enumTup (s := St b h₁ _) l₁ fun h₂ he hit hs₂ k₂ => ?_
  have k₂' : Ex h₁ h₂ := k₂
  have hT1 : h.objs.size < h₁.objs.size := by obtain ⟨o, e, _⟩ := l₁; exact Heap.lt_size e
  have hS1 : h₁.objs.size ≠ h.objs.size := Nat.ne_of_gt hT1
  have hS2 : h₁.objs.size + 1 ≠ h.objs.size := Nat.ne_of_gt (Nat.lt_succ_of_lt hT1)
  have hLlt : L < h.objs.size := hn.lt
  generalize h₁.objs.size = D1 at *
  have l₂ := (k₂'.tup l₁)
  have hD1 : D1 + 1 ≠ D1 := Nat.ne_of_gt (Nat.lt_succ_self _)
  have W := fun its => KTurns.ofWalksU (elts := [.Name "k" ⟨75, 61, 75, 62⟩, .Name "first" ⟨75, 64, 75, 69⟩]) (k := 0) (pos := ⟨75, 61, 75, 69⟩) (WalksT.enumerateD (prog := prog) (w := w) (A := A) (tupDraws (A := A.in1) hh D1 h.objs.size (Ne.symm hS1) its) (D1 + 1) hD1
    (fun q => (List.mem_cons.mp q).elim hD1 fun q => hS2 (List.mem_singleton.mp q)) (List.mem_cons_self ..)).toU
  refine ⟨h, h₂, _, D1, D1 + 1, _, _, _, _, _, _, (fun _ => False), (fun i _ ys => ∃ ds : List Int, IntsAre ys ds ∧ ds.length = i ∧ ∀ d ∈ ds, 0 ≤ d), rfl, rfl, W _,
    (fun s Q E hst q => wpAny_pyIter_enum hst.1.choose_spec q), Nat.le_of_ble_eq_true rfl, ?_, ?_, fun _ x => x.elim, ⟨⟨_, by simpa using he⟩, hit, l₂⟩, Nat.le_of_lt hT1, ?_, k₁.trans k₂', fun _ _ => ⟨[], .nil, rfl, fun _ x => by cases x⟩, fun _ _ _ _ x _ => x, ?_, ?_⟩
  · intro a ha
    simp at ha
    rcases ha with rfl | rfl
    · exact Nat.le_succ _
    · exact Nat.le_refl _
  · intro a ha
    rw [hs₂]
    simp at ha
    refine ⟨?_, fun x => x⟩
    rcases ha with rfl | rfl | rfl
    · exact Nat.lt_succ_self _
    · exact Nat.lt_succ_of_lt (Nat.lt_succ_self _)
    · exact Nat.lt_succ_of_lt (Nat.lt_succ_of_lt hT1)
  · rw [hs₂]; exact Nat.le_succ_of_le (Nat.le_succ _)
  · rintro i v h₃ t₃ ys m₃ E' hi ⟨T, vals, rfl, ⟨tt, x, hx, rfl⟩, hT⟩ ⟨ds, d1, d2, d3⟩ k₃ n₃
    obtain ⟨c, u, rfl, hc0⟩ : ∃ c u, x = .int c u ∧ 0 ≤ c := by
      have := Array.mem_of_getElem? hx
      simp at this
      rcases this with rfl | rfl | rfl | rfl | rfl | rfl <;> exact ⟨_, _, rfl, by decide⟩
    have kg : Ex h h₃ := k₃.fresh fun _ x => x.elim
    have hCl : ∀ {a : Addr} {o : Obj}, h.get? a = some o → a ≠ h₂.objs.size + 1 := fun e => Nat.ne_of_lt (Nat.lt_succ_of_lt (Heap.lt_size (k₂' _ _ (k₁ _ _ e))))
    refine asgT2 hh hT n₃ fun h₄ t₄ n₄ k₄ => ?_
    have kg4 : Ex h h₄ := fun a o e => k₄ a o (hCl e) (kg a o e)
    refine wpAny_BinOp ?_
    refine nmL n₄ (if_pos rfl) ?_
    refine Call_ ?_
    refine nmB (v := .builtin "sum") G (k.trans kg4) ?_
    refine PyProof.Rows.callWith_builtin1 ?_
    refine args_cons ?_
    refine compE (b := b) ?_
    refine subSS (b := b) ?_
    refine nmC (CellX hc kg4) ?_
    refine partS ?_
    refine nmL (v := .int (i : Int) tt) n₄ (by simp only [ofString_inj]; rfl) ?_
    refine partN ?_
    refine cInt ?_
    refine ⟨an, ws.toArray, some (i : Int), none, some 6, h₄, _, rfl, rfl, (kg4.lst hl), by rw [List.size_toArray]; omega, .int _ _, .none, .int _ _, by simp, fun D h₅ k₅ hD l₅ => ?_⟩
    obtain ⟨ms', i₅, _⟩ := pick_ints (lo := some (i : Int)) (hi' := none) (st := some 6) ‹IntsAre ws ms›
    have hps := slicePick_size_le ws.toArray (some (i : Int)) none (some 6)
    have ews : ws.toArray.size = ws.length := List.size_toArray ..
    refine CompQ.list hh l₅ (by omega) (fun _ => False) (fun j _ ys => ∃ ds : List Int, IntsAre ys ds ∧ ds.length = j ∧ ∀ d ∈ ds, 0 ≤ d) (fun _ x => x.elim) (fun x => x) (fun _ _ => ⟨[], .nil, rfl, fun _ x => by cases x⟩) (fun _ _ _ _ x _ => x)
      (fun j v h₆ t₆ ys' m₆ E'' hv ⟨es, e1, e2, e3⟩ k₆ n₆ _ => ?_) (fun h₆ t₆ ys' ⟨es, e1, e2, e3⟩ _ k₆ l₆ h₇ k₇ => ?_)
    · obtain ⟨y, hy⟩ := i₅.int_at j v (by simpa using hv)
      subst hy
      refine asgN n₆ fun h₇ n₇ k₇ => wpAny_tests_nil ?_
      simp only [if_true]
      refine wpAny_BinOp ?_
      refine nmL n₇ (if_pos rfl) ?_
      refine cInt ?_
      refine modI (by decide) ?_
      refine ⟨h₇, _, _, rfl, Kp.ofB k₇ fun a e => .inr (by rw [e]; exact Nat.lt_succ_self _), n₇, es ++ [_], ints_snoc e1 _ _, by simp [e2], fun d hd => ?_⟩
      rcases List.mem_append.mp hd with hd | hd
      · exact e3 d hd
      · rw [List.mem_singleton.mp hd]
        exact Int.fmod_nonneg_of_pos _ (by decide)
    · have k₇' : Ex h₄ h₇ := fun a o e => k₇ a o (Nat.ne_of_lt (Nat.lt_of_lt_of_le (Heap.lt_size (k₅ _ _ e)) (Nat.le_add_right _ _))) (k₆ a o (fun x => x) (k₅ a o e))
      refine args_nil ?_
      refine sumL hh (LsB l₆ k₇ (Nat.ne_of_lt (Nat.lt_succ_self _))) e1 e3 fun h₈ t₈ t₈' x k₈ hx0 => ?_
      refine addI ?_
      have k8 := k₇'.trans k₈
      refine ⟨h₈, _, _, rfl, (Kp.ofB k₄ fun a e => .inr (by rw [e]; exact Nat.lt_succ_self _)).trans (Kp.ofEx k8 _ _), n₄.keeps k8, ds ++ [_], ints_snoc d1 _ _, by simp [d2], fun d hd => ?_⟩
      rcases List.mem_append.mp hd with hd | hd
      · exact d3 d hd
      · rw [List.mem_singleton.mp hd]
        exact Int.add_nonneg hc0 hx0
  · rintro h₃ t₃ ys ⟨ds, d1, d2, d3⟩ _ k₃ l₃
    have kg : Ex h h₃ := k₃.fresh fun _ x => x.elim
    have hL2 : L < h₂.objs.size := (hn.keeps (k₁.trans k₂')).lt
    refine ⟨Nat.ne_of_lt (Nat.lt_succ_of_lt hL2), _, hn.keeps kg, fun h₄ n₄ k₄ => ?_⟩
    refine q h₄ _ _ ys ds (fun a o na e => k₄ a o (fun c => c.elim na (Nat.ne_of_lt (Nat.lt_succ_of_lt (Heap.lt_size (k₂' _ _ (k₁ _ _ e)))))) (kg a o e)) n₄
      (LsB l₃ k₄ (fun c => c.elim (fun c => Nat.ne_of_gt hL2 c) (fun c => Nat.ne_of_lt (Nat.lt_succ_self _) c))) d1 (by rw [d2]; rfl) d3 (Nat.ne_of_gt hL2) (by
        cases e : h.get? h₂.objs.size with
        | none => rfl
        | some o => exact absurd (Heap.lt_size (k₂' _ _ (k₁ _ _ e))) (Nat.lt_irrefl _))
end
end
end Mine

namespace Mine
section
open PySem PySem.W PyProof.Rows PySem.SeqAt
inductive TextsAre : List Value → List (List Nat) → Prop
  | nil : TextsAre [] []
  | cons (z : Str) (t : Tok) {vs ls} : TextsAre vs ls → TextsAre (.str z t :: vs) (z.cps.toList :: ls)
theorem TextsAre.snoc {vs : List Value} {ls : List (List Nat)} (x : TextsAre vs ls) (z : Str) (t : Tok) {l : List Nat} (e : z.cps.toList = l) : TextsAre (vs ++ [.str z t]) (ls ++ [l]) := by
  subst e
  induction x with
  | nil => exact .cons z t .nil
  | cons y u _ ih => exact .cons y u ih
theorem TextsAre.length {vs : List Value} {ls : List (List Nat)} (x : TextsAre vs ls) : vs.length = ls.length := by
  induction x with
  | nil => rfl
  | cons y u _ ih => rw [List.length_cons, List.length_cons, ih]
theorem TextsAre.get {vs : List Value} {ls : List (List Nat)} (x : TextsAre vs ls) : ∀ {i : Nat} {v : Value}, vs[i]? = some v → ∃ z t, v = .str z t ∧ ls[i]? = some z.cps.toList := by
  induction x with
  | nil => intro i v h; cases h
  | cons y u _ ih =>
    intro i v h
    cases i with
    | zero => cases h; exact ⟨y, u, rfl, rfl⟩
    | succ i => exact ih h
theorem TextsAre.strs {vs : List Value} {ls : List (List Nat)} (x : TextsAre vs ls) : ∃ ys : List Str, StrsAre vs ys ∧ (ys.map fun y => y.cps.toList) = ls := by
  induction x with
  | nil => exact ⟨[], .nil, rfl⟩
  | cons y u _ ih => obtain ⟨ys, a, e⟩ := ih; exact ⟨y :: ys, .cons y u a, by rw [List.map_cons, e]⟩
def runCps (r : Nat) : List Nat := List.replicate r 32 ++ [9]
def leadCps (rs : List Nat) (tl : Nat) : List Nat := (rs.map runCps).flatten ++ List.replicate tl 32
def IsLead (l : List Nat) : Prop := ∃ rs tl, l = leadCps rs tl ∧ rs.length ≤ 2 ∧ (∀ r ∈ rs, r ≤ 5) ∧ tl ≤ 5
theorem sz_cps {z : Str} {l : List Nat} (e : z.cps.toList = l) : z.cps.size = l.length := by rw [← e, Array.length_toList]
theorem runs_len {rs : List Nat} (h : ∀ r ∈ rs, r ≤ 5) : ((rs.map runCps).flatten).length ≤ rs.length * 6 := by
  induction rs with
  | nil => exact Nat.le_refl _
  | cons r t ih =>
    have := ih fun x hx => h x (List.mem_cons_of_mem _ hx)
    have := h r (List.mem_cons_self ..)
    simp only [List.map_cons, List.flatten_cons, List.length_append, List.length_cons, runCps, List.length_replicate, List.length_nil]
    omega
theorem fmod_range {a m : Int} (hm : 0 < m) : 0 ≤ a.fmod m ∧ a.fmod m < m := ⟨Int.fmod_nonneg_of_pos a hm, Int.fmod_lt_of_pos a hm⟩

section
variable {prog : Program} {w : World} {A : Around} {E : Value → Shared → Prop} {env : Env} {b : Shared} {h : Heap} {t : Nat} {mg mb : Str → Option Value} {g : Heap}
theorem asgNC {x : Str} {pos : Pos} {c : Addr} {v₀ : Option Value} {v : Value} {Q : Unit → Shared → Prop} (hv : h.IsCell c v₀)
    (q : ∀ h', h'.IsCell c (some v) → ExB (· = c) h h' → Q () (St b h' t))
    (hc : env.cells.lookup x = some c := by rfl) (hk : env.scope.kind = .function := by rfl) (hx : env.kindOf x = some .cell := by with_unfolding_all rfl) :
    wpAny (model prog w) A (assign (.Name x pos) env v) Q E (St b h t) := wpAny_assign_Name (stC hv q hc hk hx)
end

section
variable {prog : Program} {w : World} {A : Around} {E : Value → Shared → Prop} {b : Shared} {h : Heap} {t : Nat} {mg mb : Str → Option Value} {g : Heap} {L : Addr} {m : Str → Option Value} {Q : Flow → Shared → Prop}

theorem st2 (hn : h.Ns L m) (q : ∀ h' t' al, ExB (· = L) h h' → h'.Ns L (fun y => if y = "leads" then some (.ref al) else m y) → PL h' al [] → al ≠ L → h.objs.size ≤ al → Q .next (St b h' t')) :
    wpAny (model prog w) A (exec (stm w 2) (LE w L)) Q E (St b h t) := by
  refine asgL (x := "leads") ?_
  refine List_ ?_
  refine args_nil ?_
  refine nPL (Nat.le_of_ble_eq_true rfl) fun h₁ k₁ l₁ => ?_
  have hne : h.objs.size ≠ L := Nat.ne_of_gt hn.lt
  exact ⟨h₁, _, _, rfl, hn.keeps k₁, fun h₂ n₂ k₂ => q h₂ _ _ (fun a o na e => k₂ a o na (k₁ a o e)) n₂ (l₁.but k₂ hne) hne (Nat.le_refl _)⟩

theorem st3 (G : Gd w mg mb g) (k : Ex g h) (hgL : g.objs.size ≤ L) (hh : A.handled = none) {ad al : Addr} {vs : List Value} {ds : List Int} {c0 : Option Value} (hn : h.Ns L m) (hmd : m "drawn" = some (.ref ad)) (hml : m "leads" = some (.ref al)) (hc : h.IsCell (L + 2) c0)
    (hd : h.IsList ad vs.toArray) (hi : IntsAre vs ds) (hdl : ds.length = 6) (hdn : ∀ d ∈ ds, 0 ≤ d) (hl : PL h al []) (hal : L + 2 < al)
    (q : ∀ h' t' m' vals ls, ExB (fun a => a = L ∨ a = L + 2 ∨ a = al) h h' → h'.Ns L m' → m' "drawn" = some (.ref ad) → m' "leads" = some (.ref al) → PL h' al vals → TextsAre vals ls → ls.length = 5 → (∀ l ∈ ls, IsLead l) → (∃ v, h'.IsCell (L + 2) v) → Q .next (St b h' t')) :
    wpAny (model prog w) A (exec (stm w 3) (LE w L)) Q E (St b h t) := by
  refine wpAny_For ?_
  refine subS (b := b) ?_
  refine nmL hn hmd ?_
  refine partN ?_
  refine partS ?_
  refine cInt ?_
  have hvl : vs.length = 6 := by rw [hi.length, hdl]
  refine ⟨ad, vs.toArray, none, some 5, none, h, _, rfl, rfl, hd, by rw [List.size_toArray]; omega, .none, .int _ _, .none, by simp, fun D h₁ k₁ hD l₁ => ?_⟩
  rw [show (5 : Int) = ((5 : Nat) : Int) from rfl, slicePick_upto'] at l₁
  have n₁ := hn.keeps k₁
  have c₁ := CellX hc k₁
  have L₁ := hl.ex k₁
  have hLc : L < h.objs.size := hn.lt
  have hfrD : ∀ {a : Addr} {o : Obj}, h.get? a = some o → D ≠ a := fun e c => by rw [c, e] at hD; cases hD
  have hDL : D ≠ L := hfrD hn.choose_spec.choose_spec.choose_spec.1
  have hDc : D ≠ L + 2 := by obtain ⟨o, e, _⟩ := hc; exact hfrD e
  have hDa : D ≠ al := by obtain ⟨o, e⟩ := hl; exact hfrD e
  have hgne : ∀ {a : Addr} {o : Obj}, g.get? a = some o → ¬ (a = L ∨ a = L + 2 ∨ a = al) := fun e c => by
    have h1 := Nat.lt_of_lt_of_le (Heap.lt_size e) hgL
    rcases c with c | c | c
    · rw [c] at h1; exact Nat.lt_irrefl _ h1
    · rw [c] at h1; exact Nat.lt_irrefl _ (Nat.lt_of_succ_lt (Nat.lt_of_succ_lt h1))
    · rw [c] at h1; exact Nat.lt_irrefl _ (Nat.lt_of_succ_lt (Nat.lt_of_succ_lt (Nat.lt_trans hal h1)))
  refine forList hh l₁ (fun a => a = L ∨ a = L + 2 ∨ a = al)
    (fun i h => ∃ m' vals ls, h.Ns L m' ∧ m' "drawn" = some (.ref ad) ∧ m' "leads" = some (.ref al) ∧ (∃ v, h.IsCell (L + 2) v) ∧ PL h al vals ∧ TextsAre vals ls ∧ ls.length = i ∧ ∀ l ∈ ls, IsLead l)
    (fun a e => ?_) (fun e => e.elim hDL fun e => e.elim hDc hDa) (fun h' x => ⟨m, [], [], n₁.keeps x, hmd, hml, ⟨_, CellX c₁ x⟩, L₁.ex x, .nil, rfl, fun _ x => by cases x⟩)
    (fun i h₀ h₂ ⟨m', vals, ls, z1, z2, z3, ⟨v, z4⟩, z5, z6⟩ x => ?_) (fun i v h₂ t₂ E' hv ⟨m', vals, ls, z1, z2, z3, ⟨v0, z4⟩, z5, z6, z7, z8⟩ k₂ _ => ?_) fun h₂ t₂ ⟨m', vals, ls, z1, z2, z3, ⟨v, z4⟩, z5, z6, z7, z8⟩ k₂ => ?_
  · rcases e with rfl | rfl | rfl
    · exact n₁.lt
    · obtain ⟨o, e, _⟩ := c₁; exact Heap.lt_size e
    · obtain ⟨o, e⟩ := L₁; exact Heap.lt_size e
  · refine ⟨m', vals, ls, z1.at' fun o e => x _ o (Nat.ne_of_lt n₁.lt) e, z2, z3, ⟨v, CellB z4 x ?_⟩, z5.but x ?_, z6⟩
    · obtain ⟨o, e, _⟩ := c₁; exact Nat.ne_of_lt (Heap.lt_size e)
    · obtain ⟨o, e⟩ := L₁; exact Nat.ne_of_lt (Heap.lt_size e)
  · have kg2 : Ex g h₂ := fun a o e => k₂ a o (hgne e) (k₁ a o (k a o e))
    obtain ⟨d, u, rfl, hd0⟩ : ∃ d u, v = .int d u ∧ 0 ≤ d := by
      have hm : v ∈ vs := by
        have := Array.mem_of_getElem? hv
        simp at this
        exact List.mem_of_mem_take this
      obtain ⟨j, hj, e⟩ := List.getElem_of_mem hm
      obtain ⟨u, e2⟩ := hi.int_at j v (by rw [← e]; exact List.getElem?_eq_getElem hj)
      refine ⟨_, u, e2, ?_⟩
      rw [List.getD_eq_getElem?_getD, List.getElem?_eq_getElem (by omega)]
      exact hdn _ (List.getElem_mem _)
    have hcl : L + 2 < h₁.objs.size := by obtain ⟨o, e, _⟩ := c₁; exact Heap.lt_size e
    have hnL : L ≠ L + 2 := Nat.ne_of_lt (Nat.lt_succ_of_lt (Nat.lt_succ_self _))
    refine asgNC (c := L + 2) z4 fun h₃ c₃ k₃ => ?_
    have n₃ : h₃.Ns L m' := z1.at' fun o e => k₃ _ o hnL e
    have l₃ := z5.but k₃ (Nat.ne_of_gt hal)
    have kg3 : Ex g h₃ := fun a o e => k₃ a o (fun c => hgne e (.inr (.inl c))) (kg2 a o e)
    refine wpAny_execs_cons ?_
    refine compA (b := b) (x := "runs") ?_
    refine Call_ ?_
    refine nmB (v := .type "range") G kg3 ?_
    refine PyProof.Rows.callWith_type1 ?_
    refine args_cons ?_
    refine wpAny_BinOp ?_
    refine wpAny_BinOp ?_
    refine nmC c₃ ?_
    refine cInt ?_
    refine divR (by decide) (by decide) ?_
    refine cInt ?_
    refine modI (by decide) ?_
    refine args_nil ?_
    obtain ⟨f0, f1⟩ := fmod_range (a := d.fdiv 36) (m := 3) (by decide)
    generalize (d.fdiv 36).fmod 3 = kn at f0 f1
    refine rng1 fun r h₄ t₄ t1 t2 t3 k₄ r₄ => ?_
    have c₄ := CellX c₃ k₄
    refine CompQ.range hh r₄ (by decide) (by decide) (by omega) (by omega) (n := kn.toNat) (by split <;> omega) (by omega) (fun _ => False)
      (fun i _ ys => ∃ rs : List Nat, TextsAre ys (rs.map runCps) ∧ rs.length = i ∧ ∀ r ∈ rs, r ≤ 5) (fun _ x => x.elim) (fun _ _ => ⟨[], .nil, rfl, fun _ x => by cases x⟩) (fun _ _ _ _ x _ => x)
      (fun j tk h₅ t₅ ys m₅ E'' hj ⟨rs, e1, e2, e3⟩ k₅ n₅ _ => ?_) (fun h₅ t₅ ys ⟨rs, e1, e2, e3⟩ _ k₅ l₅ => ?_)
    · have kx : Ex h₄ h₅ := k₅.fresh fun _ x => x.elim
      have hC : ∀ {a : Addr} {o : Obj}, h₄.get? a = some o → a ≠ h₄.objs.size + 2 := fun e => Nat.ne_of_lt (Nat.lt_of_lt_of_le (Heap.lt_size e) (Nat.le_add_right _ _))
      refine asgN n₅ fun h₆ n₆ k₆ => wpAny_tests_nil ?_
      simp only [if_true]
      have c₆ : h₆.IsCell (L + 2) (some (.int d u)) := by
        obtain ⟨o, e, r⟩ := c₄
        exact ⟨o, k₆ _ _ (hC e) (kx _ _ e), r⟩
      have hj2 : j = 0 ∨ j = 1 := by omega
      have hp : 1 ≤ (6 : Int) ^ (0 + (j : Int)).toNat ∧ (6 : Int) ^ (0 + (j : Int)).toNat ≤ 1000000 := by rcases hj2 with rfl | rfl <;> decide
      refine wpAny_BinOp ?_
      refine wpAny_BinOp ?_
      refine cStr ?_
      refine wpAny_BinOp ?_
      refine wpAny_BinOp ?_
      refine nmC c₆ ?_
      refine wpAny_BinOp ?_
      refine cInt ?_
      refine nmL n₆ (if_pos rfl) ?_
      refine pow_int_small (s := St b h₆ _) (by omega) (by omega) (by decide) ?_
      refine divR hp.1 hp.2 ?_
      refine cInt ?_
      refine modI (by decide) ?_
      obtain ⟨g0, g1⟩ := fmod_range (a := d.fdiv (6 ^ (0 + (j : Int)).toNat)) (m := 6) (by decide)
      generalize (d.fdiv (6 ^ (0 + (j : Int)).toNat)).fmod 6 = x at g0 g1
      refine mulS rfl g0 (by omega) fun z t' tk' hz => ?_
      refine cStr ?_
      refine addS ?_ fun z2 t2' tk2' hz2 => ?_
      · rw [sz_cps hz, List.length_replicate]
        show x.toNat + 1 ≤ 1000
        omega
      refine ⟨h₆, _, _, rfl, Kp.ofB k₆ fun a e => .inr (by rw [e]; exact Nat.lt_succ_self _), n₆, rs ++ [x.toNat], ?_, by simp [e2], fun y hy => ?_⟩
      · rw [List.map_append]
        exact e1.snoc z2 _ (by rw [hz2, hz]; rfl)
      · rcases List.mem_append.mp hy with hy | hy
        · exact e3 y hy
        · rw [List.mem_singleton.mp hy]; omega
    · have kx : Ex h₄ h₅ := k₅.fresh fun _ x => x.elim
      have hsz4 : L < h₄.objs.size := (n₃.keeps k₄).lt
      have hC : ∀ {a : Addr} {o : Obj}, h₄.get? a = some o → a ≠ h₄.objs.size + 2 := fun e => Nat.ne_of_lt (Nat.lt_of_lt_of_le (Heap.lt_size e) (Nat.le_add_right _ _))
      have hkn : kn.toNat ≤ 2 := by omega
      rw [← e2] at hkn
      refine ⟨Nat.ne_of_lt (Nat.lt_of_lt_of_le hsz4 (Nat.le_add_right _ _)), _, (n₃.keeps k₄).keeps kx, fun h₆ n₆ k₆ => ?_⟩
      have k₆' : ∀ a o, a ≠ L → h₄.get? a = some o → h₆.get? a = some o := fun a o na e => k₆ a o (fun c => c.elim na (hC e)) (kx a o e)
      have c₆ : h₆.IsCell (L + 2) (some (.int d u)) := by
        obtain ⟨o, e, r⟩ := c₄
        exact ⟨o, k₆' _ _ (Ne.symm hnL) e, r⟩
      have l₆ : PL h₆ al vals := by
        obtain ⟨n, e⟩ := l₃
        exact ⟨n, k₆' _ _ (Nat.ne_of_gt (Nat.lt_of_succ_lt (Nat.lt_of_succ_lt hal))) (k₄ _ _ e)⟩
      have r₆ : h₆.IsList (h₄.objs.size + 1) ys.toArray := LsB l₅ k₆ (fun c => c.elim (Nat.ne_of_gt (Nat.lt_succ_of_lt hsz4)) (Nat.ne_of_lt (Nat.lt_succ_self _)))
      obtain ⟨sts, s1, s2⟩ := e1.strs
      have hsum : (sts.map fun y => y.cps.size).sum ≤ 12 := by
        have h1 := runs_len e3
        rw [← s2, List.length_flatten, List.map_map] at h1
        have h2 : (sts.map (List.length ∘ fun y : Str => y.cps.toList)) = sts.map fun y => y.cps.size := by
          apply List.map_congr_left; intro y _; simp
        rw [h2] at h1
        omega
      refine wpAny_execs_cons ?_
      refine wpAny_Expr ?_
      refine MethodCall_ ?_
      refine nmL n₆ ((if_neg (by rw [ofString_inj]; decide)).trans z3) ?_
      refine methA l₆ ?_
      refine callWith_method1 ?_
      refine args_cons ?_
      refine wpAny_BinOp ?_
      refine MethodCall_ ?_
      refine cStr ?_
      refine PySem.GM.join ?_
      refine callWith_method1 ?_
      refine args_cons ?_
      refine nmL n₆ (if_pos rfl) ?_
      refine args_nil ?_
      refine joinS r₆ s1 rfl (by omega) fun z t' tk' hz => ?_
      refine wpAny_BinOp ?_
      refine cStr ?_
      refine wpAny_BinOp ?_
      refine wpAny_BinOp ?_
      refine nmC c₆ ?_
      refine cInt ?_
      refine divR (by decide) (by decide) ?_
      refine cInt ?_
      refine modI (by decide) ?_
      obtain ⟨g0, g1⟩ := fmod_range (a := d.fdiv 108) (m := 6) (by decide)
      generalize (d.fdiv 108).fmod 6 = x at g0 g1
      refine mulS rfl g0 (by omega) fun zb t2' tk2' hz2 => ?_
      have hzl : z.cps.size ≤ 12 := by
        rw [sz_cps hz, s2]
        have := runs_len e3
        omega
      refine addS ?_ fun z3' t3' tk3' hz3 => ?_
      · rw [sz_cps hz2, List.length_replicate]; omega
      refine args_nil ?_
      refine appL l₆ (by rw [z6.length, z7]; have := (Array.getElem?_eq_some_iff.mp hv).1; simp at this; omega) fun h₇ l₇ k₇ => ?_
      refine wpAny_execs_nil ?_
      have hLal : L < al := Nat.lt_of_succ_lt (Nat.lt_of_succ_lt hal)
      refine ⟨h₇, _, rfl, ?_, _, vals ++ [_], ls ++ [_], n₆.at' fun o e => k₇ _ o (Nat.ne_of_lt hLal) e, (if_neg (by rw [ofString_inj]; decide)).trans z2, (if_neg (by rw [ofString_inj]; decide)).trans z3, ⟨_, CellB c₆ k₇ (Nat.ne_of_lt hal)⟩, l₇, z6.snoc z3' _ hz3, by simp [z7], fun l hl => ?_⟩
      · refine (Kp.ofB k₃ fun a e => .inl (.inr (.inl e))).trans ((Kp.ofEx k₄ _ _).trans ?_)
        intro a o na _ e
        exact k₇ a o (fun c => na (.inr (.inr c))) (k₆' a o (fun c => na (.inl c)) e)
      · rcases List.mem_append.mp hl with hl | hl
        · exact z8 l hl
        · rw [List.mem_singleton.mp hl]
          exact ⟨rs, x.toNat, by rw [hz, hz2, s2]; rfl, hkn, e3, by omega⟩
  · have hf : (List.take 5 vs).toArray.size = 5 := by rw [List.size_toArray, List.length_take]; omega
    exact q h₂ _ m' vals ls (fun a o na e => k₂ a o na (k₁ a o e)) z1 z2 z3 z5 z6 (z7.trans hf) z8 ⟨v, z4⟩
end
end
end Mine

namespace Mine
section
open PySem PySem.W PyProof.Rows PySem.SeqAt
def WsOf (h : Heap) (x : Addr) (l : List Nat) : Prop := Ws h x (scan l).cs (scan l).b (scan l).n (scan l).nt
def SpL (h : Heap) (a : Addr) (ls : List (List Nat)) : Prop := ∃ xs : List Addr, h.IsList a (xs.map Value.ref).toArray ∧ xs.length = ls.length ∧ ∀ j x, xs[j]? = some x → WsOf h x (ls.getD j [])
/-- what came between h and h' stands in h'' -/
def Mid (h h' h'' : Heap) : Prop := ∀ a o, h.get? a = none → h'.get? a = some o → h''.get? a = some o
theorem lead_cps {l : List Nat} (x : IsLead l) : (∀ c ∈ l, c = 32 ∨ c = 9) ∧ l.length ≤ 17 := by
  obtain ⟨rs, tl, rfl, h1, h2, h3⟩ := x
  constructor
  · intro c hc
    rcases List.mem_append.mp hc with hc | hc
    · obtain ⟨y, hy, hc⟩ := List.mem_flatten.mp hc
      obtain ⟨r, _, rfl⟩ := List.mem_map.mp hy
      rcases List.mem_append.mp hc with hc | hc
      · exact .inl (List.eq_of_mem_replicate hc)
      · exact .inr (List.mem_singleton.mp hc)
    · exact .inl (List.eq_of_mem_replicate hc)
  · have := runs_len h2
    rw [leadCps, List.length_append, List.length_replicate]
    omega
theorem ascii_of {z : Str} (h : ∀ c ∈ z.cps.toList, c < 128) : z.cps.all (· < 128) = true := by
  rw [← Array.all_toList]
  exact List.all_eq_true.mpr fun c hc => decide_eq_true (h c hc)

section
variable {prog : Program} {w : World} {A : Around} {E : Value → Shared → Prop} {b : Shared} {h : Heap} {t : Nat} {mg mb : Str → Option Value} {g : Heap} {L : Addr} {m : Str → Option Value} {Q : Flow → Shared → Prop}
theorem st4 (G : Gd w mg mb g) (k : Ex g h) (hgL : g.objs.size ≤ L) (r : Room A 30 70) {al : Addr} {vals : List Value} {ls : List (List Nat)} {c0 : Option Value} (hn : h.Ns L m) (hml : m "leads" = some (.ref al)) (hc : h.IsCell (L + 9) c0)
    (hl : PL h al vals) (ht : TextsAre vals ls) (hz : ls.length ≤ 100) (hls : ∀ l ∈ ls, IsLead l)
    (q : ∀ h' t' sp, ExB (· = L + 9) h h' → h'.IsCell (L + 9) (some (.ref sp)) → (∀ h'', Mid h h' h'' → SpL h'' sp ls) → Q .next (St b h' t')) :
    wpAny (model prog w) A (exec (stm w 4) (LE w L)) Q E (St b h t) := by
  refine asgC (x := "spaces") (c := L + 9) ?_
  refine compE (b := b) ?_
  refine nmL hn hml ?_
  have hne : ∀ {a : Addr} {o : Obj}, h.get? a = some o → ¬ (h.objs.size ≤ a ∧ a ≤ h.objs.size + 2) := fun e c => Nat.lt_irrefl _ (Nat.lt_of_lt_of_le (Heap.lt_size e) c.1)
  refine CompQ.list r.hh hl.is (by rw [List.size_toArray, ht.length]; omega) (fun _ => False)
    (fun i h₁ ys => ∃ xs : List Addr, ys = xs.map Value.ref ∧ xs.length = i ∧ ∀ j x, xs[j]? = some x → ∀ h'', (∀ a o, h.get? a = none → ¬ (h.objs.size ≤ a ∧ a ≤ h.objs.size + 2) → h₁.get? a = some o → h''.get? a = some o) → WsOf h'' x (ls.getD j []))
    (fun _ x => x.elim) (fun x => x) (fun _ _ => ⟨[], rfl, rfl, fun _ _ x => by cases x⟩) ?_
    (fun i v h₁ t₁ ys m₁ E' hv ⟨xs, z1, z2, z3⟩ k₁ n₁ hx => ?_) (fun h₁ t₁ ys ⟨xs, z1, z2, z3⟩ _ k₁ l₁ h₂ k₂ => ?_)
  · rintro i h₀ h₁ ys ⟨xs, z1, z2, z3⟩ x
    refine ⟨xs, z1, z2, fun j y ej h'' kk => ?_⟩
    refine z3 j y ej h'' fun a o n1 n2 e => ?_
    refine kk a o n1 n2 ?_
    exact x a o n2 e
  · have kx : Ex h h₁ := k₁.fresh fun _ x => x.elim
    obtain ⟨z, tz, rfl, hz'⟩ := ht.get (by simpa using hv)
    have hil : IsLead z.cps.toList := hls _ (List.mem_of_getElem? hz')
    obtain ⟨hcs, hlen⟩ := lead_cps hil
    refine asgN n₁ fun h₂ n₂ k₂ => wpAny_tests_nil ?_
    simp only [if_true]
    have hC : ∀ {a : Addr} {o : Obj}, h.get? a = some o → a ≠ h.objs.size + 2 := fun e => Nat.ne_of_lt (Nat.lt_of_lt_of_le (Heap.lt_size e) (Nat.le_add_right _ _))
    have kx2 : Ex h h₂ := fun a o e => k₂ a o (hC e) (kx a o e)
    have hI : ∃ o, h₂.get? h.objs.size = some o := by obtain ⟨o, e⟩ := hx.1; exact ⟨o, k₂ _ _ (Nat.ne_of_lt (Nat.lt_succ_of_lt (Nat.lt_succ_self _))) e⟩
    have hD : ∃ o, h₂.get? (h.objs.size + 1) = some o := by obtain ⟨o, e⟩ := hx.2; exact ⟨o, k₂ _ _ (Nat.ne_of_lt (Nat.lt_succ_self _)) e⟩
    have hCo : ∃ o, h₂.get? (h.objs.size + 2) = some o := by obtain ⟨o, _, _, e, _⟩ := n₂; exact ⟨o, e⟩
    refine Call_ ?_
    refine nmG (v := .ref 83) G (k.trans kx2) ?_
    refine cw1 G ?_
    refine args_cons ?_
    refine wpAny_BinOp ?_
    refine nmL n₂ (if_pos rfl) ?_
    refine cStr ?_
    refine addS ?_ fun z2' t' tk' hz2 => ?_
    · rw [sz_cps rfl]
      show _ + 3 ≤ 1000
      omega
    refine args_nil ⟨k.trans kx2, ?_⟩
    have hsz : g.objs.size ≤ h₂.objs.size := Nat.le_trans hgL (Nat.le_of_lt (hn.keeps kx2).lt)
    refine make_spec (l := z.cps.toList) (rest := [9, 32]) G (k.trans kx2) hsz r ?_ hz2 hcs (by omega) fun x h₃ tk₃ k₃ hx0 W => ?_
    · refine ascii_of fun c hc => ?_
      rw [hz2] at hc
      rcases List.mem_append.mp hc with hc | hc
      · rcases hcs c hc with rfl | rfl <;> decide
      · have : c ∈ [120, 9, 32] := hc
        simp at this
        rcases this with rfl | rfl | rfl <;> decide
    · refine ⟨h₃, _, _, rfl, (Kp.ofB k₂ fun a e => .inr (by rw [e]; exact Nat.lt_succ_self _)).trans (Kp.ofEx k₃ _ _), n₂.keeps k₃, xs ++ [x], by rw [z1]; simp, by simp [z2], fun j y hj h'' kk => ?_⟩
      by_cases hjl : j < xs.length
      · rw [List.getElem?_append_left hjl] at hj
        refine z3 j y hj h'' fun a o a1 a2 e => kk a o a1 a2 (k₃ _ _ (k₂ a o (fun c => a2 (by rw [c]; exact ⟨Nat.le_add_right _ _, Nat.le_refl _⟩)) e))
      · rw [List.getElem?_append_right (by omega)] at hj
        have hj0 : j = xs.length := by
          rcases Nat.eq_or_lt_of_le (Nat.le_of_not_lt hjl) with e | e
          · exact e.symm
          · rw [List.getElem?_eq_none (by simp; omega)] at hj; cases hj
        subst hj0
        simp at hj
        subst hj
        rw [List.getD_eq_getElem?_getD, z2, hz']
        refine W h'' fun a o e1 e2 => kk a o ?_ ?_ e2
        · cases e : h.get? a with
          | none => rfl
          | some o' => rw [kx2 _ _ e] at e1; cases e1
        · rintro ⟨c1, c2⟩
          have : a = h.objs.size ∨ a = h.objs.size + 1 ∨ a = h.objs.size + 2 := by
            have c1' : h.objs.size ≤ (a : Nat) := c1
            have c2' : (a : Nat) ≤ h.objs.size + 2 := c2
            rcases Nat.lt_or_eq_of_le c1' with c | c
            · rcases Nat.lt_or_eq_of_le c2' with d | d
              · exact .inr (.inl (Nat.le_antisymm (Nat.le_of_lt_succ d) c))
              · exact .inr (.inr d)
            · exact .inl c.symm
          rcases this with c | c | c
          · obtain ⟨o', e⟩ := hI; rw [c, e] at e1; cases e1
          · obtain ⟨o', e⟩ := hD; rw [c, e] at e1; cases e1
          · obtain ⟨o', e⟩ := hCo; rw [c, e] at e1; cases e1
  · have kx : Ex h h₁ := k₁.fresh fun _ x => x.elim
    have hC : ∀ {a : Addr} {o : Obj}, h.get? a = some o → a ≠ h.objs.size + 2 := fun e => Nat.ne_of_lt (Nat.lt_of_lt_of_le (Heap.lt_size e) (Nat.le_add_right _ _))
    have kx2 : Ex h h₂ := fun a o e => k₂ a o (hC e) (kx a o e)
    refine ⟨h₂, _, _, rfl, CellX hc kx2, fun h₃ c₃ k₃ => ?_⟩
    have hcl : L + 9 < h.objs.size := by obtain ⟨o, e, _⟩ := hc; exact Heap.lt_size e
    refine q h₃ _ _ (fun a o na e => k₃ a o na (kx2 a o e)) c₃ fun h'' kk => ⟨xs, ?_, ?_, ?_⟩
    · rw [← z1]
      obtain ⟨o, e, r⟩ := LsB (LsB l₁ k₂ (Nat.ne_of_lt (Nat.lt_succ_self _))) k₃ (Nat.ne_of_gt (Nat.lt_succ_of_lt hcl))
      exact ⟨o, kk _ _ (Heap.get?_none_of_le (Nat.le_succ _)) e, r⟩
    · rw [z2, List.size_toArray, ht.length]
    · intro j x hj
      refine z3 j x hj h'' fun a o a1 a2 e => kk a o a1 (k₃ a o (fun c => ?_) (k₂ a o (fun c => a2 (by rw [c]; exact ⟨Nat.le_add_right _ _, Nat.le_refl _⟩)) e))
      obtain ⟨o', e', _⟩ := hc
      rw [c, e'] at a1; cases a1
end
end
end Mine

namespace Mine
section
open PySem PySem.W PyProof.Rows PySem.SeqAt
section
variable {prog : Program} {w : World} {A : Around} {E : Value → Shared → Prop} {env : Env} {b : Shared} {h : Heap} {t : Nat} {mg mb : Str → Option Value} {g : Heap}
theorem newCompEnv {scope : Scope} {globals : Addr} {cl : List (Str × Addr)} {qual : Str} {outer : Env} {s : Shared} {Q : Env → Shared → Prop}
    (q : Q (newEnv scope s.heap.objs.size globals (cellsFrom (s.heap.objs.size + 1) scope.names cl) qual none .none (some outer) builtinsNs) { s with heap := pushCells (s.heap.push { cls := .type "dict", data := .dict #[] }) scope.names }) :
    wpAny (model prog w) A (newFunctionEnv scope globals cl [] qual none .none (some outer)) Q E s := by
  have next : (s.heap.push { cls := .type "dict", data := .dict #[] }).objs.size = s.heap.objs.size + 1 := Heap.size_push ..
  unfold newFunctionEnv
  show wpAny _ _ (alloc { cls := .type "dict", data := .dict #[] } >>= _) Q E s
  apply wpAny_bind; apply wpAny_alloc
  apply wpAny_bind; apply wpAny_layCells
  · intro name kind cells
    by_cases c : (kind == NameKind.cell) = true
    · simp only [c, if_true]
    · simp only [c]
  · dsimp only
    rw [next]
    apply wpAny_bind; apply wpAny_pure
    exact wpAny_pure q

/-- a comprehension over a list, whose own name is a cell -/
theorem cellComp {elt target iter : Expr} {ifs : List Expr} {scope : Scope} {cl : List (Str × Addr)} {x : Str} {pos : Pos} {Q : Value → Shared → Prop} {s : Shared} (hh : A.handled = none)
    (q : wpAny (model prog w) A (eval iter env) (fun xv s₁ => ∃ h t l its, ∃ J : Nat → Heap → List Value → Prop, xv = .ref l ∧ s₁ = St b h t ∧ h.IsList l its ∧ its.size ≤ 1000000 ∧ (∀ h', Ex h h' → h'.IsCell (h.objs.size + 3) none → J 0 h' []) ∧
      (∀ i h₀ h₁ ys, J i h₀ ys → ExB (fun a => h.objs.size ≤ a ∧ a ≤ h.objs.size + 2) h₀ h₁ → J i h₁ ys) ∧
      (∀ i v h₁ t₁ ys m₁ (E' : Value → Shared → Prop), its[i]? = some v → J i h₁ ys → Ex h h₁ → h₁.Ns (h.objs.size + 2) m₁ → (∃ o, h₁.get? h.objs.size = some o) ∧ (∃ o, h₁.get? (h.objs.size + 1) = some o) →
        wpAny (model prog w) A (assign target (compEnvC scope ((x, h.objs.size + 3) :: cl) (h.objs.size + 2) env) v) (fun _ s₂ =>
          wpAny (model prog w) A (forIn ifs true fun c r => if r = true then do let ok ← isTrue c (compEnvC scope ((x, h.objs.size + 3) :: cl) (h.objs.size + 2) env) (eval c (compEnvC scope ((x, h.objs.size + 3) :: cl) (h.objs.size + 2) env)); pure (ForInStep.yield ok) else pure (ForInStep.yield r)) (fun ok s₃ =>
            if ok = true then wpAny (model prog w) A (eval elt (compEnvC scope ((x, h.objs.size + 3) :: cl) (h.objs.size + 2) env)) (fun y s₄ => ∃ h₄ t₄ m₄, s₄ = St b h₄ t₄ ∧ Kp (fun _ => False) (h.objs.size + 1) h₁ h₄ ∧ h₄.Ns (h.objs.size + 2) m₄ ∧ J (i + 1) h₄ (ys ++ [y])) E' s₃
            else ∃ h₄ t₄ m₄, s₃ = St b h₄ t₄ ∧ Kp (fun _ => False) (h.objs.size + 1) h₁ h₄ ∧ h₄.Ns (h.objs.size + 2) m₄ ∧ J (i + 1) h₄ ys) E' s₂) E' (St b h₁ t₁)) ∧
      (∀ h₁ t₁ ys, J its.size h₁ ys → ys.length ≤ its.size → Ex h h₁ → h₁.IsList (h.objs.size + 1) ys.toArray → ∀ h', ExB (· = h.objs.size + 2) h₁ h' → Q (.ref (h.objs.size + 1)) (St b h' t₁))) E s)
    (hclos : closureFor scope env = pure cl := by rfl) (hkind : scope.kind = .function := by rfl)
    (hcf : ∀ C cl, cellsFrom (C + 1) scope.names cl = (x, C + 1) :: cl := by intro _ _; rfl) (hpc : ∀ H, pushCells H scope.names = H.push { cls := .type "cell", data := .cell none } := by intro _; rfl)
    (hnames : (scope.names.all fun x => decide (x.2 = .local → scope.names.lookup x.1 = some .local)) = true := by rfl) (hs : ∀ x, foldedSetIterable iter env x = pure x := by intro _; rfl) (ht : ∀ I v, letOwnedTupleGo target (.ref I) v = pure () := by intro _ _; rfl) :
    wpAny (model prog w) A (eval (.ListComp elt [⟨target, iter, ifs, 0⟩] scope pos) env) Q E s := by
  rw [eval_ListComp]
  refine wpAny_comprehension_free (use := none) rfl hs hclos hkind (fun x hx => of_decide_eq_true (List.all_eq_true.mp hnames x hx)) (wpAny_mono q (fun xv s₁ q₁ => ?_) fun _ _ x => x)
  obtain ⟨h, t, l, its, J, rfl, rfl, hl, hz, h0, mono, step, done⟩ := q₁
  have hlt : l < h.objs.size := by obtain ⟨o, e, _⟩ := hl; exact Heap.lt_size e
  refine wpAny_pyIter_list hl ?_
  refine wpAny_newObj_type ?_ (by show _ ≤ sizeLine; exact sz24 (Nat.zero_le _))
  generalize hhI : h.push { cls := .type "list_iterator", data := .fields #[.ref l, .int 0 0] } = hI
  have szI : hI.objs.size = h.objs.size + 1 := by rw [← hhI, Heap.size_push]
  have kI : Ex h hI := hhI ▸ Ex.push _ _
  have itI : hI.IsListIter h.objs.size l 0 := by rw [← hhI]; exact ⟨_, Heap.get?_push_size _ rfl, rfl, rfl⟩
  show wpAny _ A _ _ _ (St b (hI.push { cls := .type "list", data := .seq ([] : List Value).toArray }) t)
  generalize hH : hI.push { cls := .type "list", data := .seq ([] : List Value).toArray } = H
  have szH : H.objs.size = h.objs.size + 2 := by rw [← hH, Heap.size_push, szI]
  have kH : Ex hI H := hH ▸ Ex.push _ _
  refine newCompEnv ?_
  rw [hcf, hpc]
  have k3 : Ex H ((H.push { cls := .type "dict", data := .dict #[] }).push { cls := .type "cell", data := .cell none }) := (Ex.push _ _).trans (Ex.push _ _)
  have c3 : ((H.push { cls := .type "dict", data := .dict #[] }).push { cls := .type "cell", data := .cell none }).IsCell (h.objs.size + 3) none := by
    have e : (H.push { cls := .type "dict", data := .dict #[] }).objs.size = h.objs.size + 3 := by rw [Heap.size_push, szH]
    rw [← e]
    exact ⟨_, Heap.get?_push_size _ rfl, rfl⟩
  have n3 : ((H.push { cls := .type "dict", data := .dict #[] }).push { cls := .type "cell", data := .cell none }).Ns (h.objs.size + 2) (fun _ => none) := by
    rw [← szH]
    exact (Heap.Ns.new H (.type "dict")).keeps (Ex.push _ _)
  show codeAny _ A _ _ (St b ((H.push { cls := .type "dict", data := .dict #[] }).push { cls := .type "cell", data := .cell none }) t)
  generalize ((H.push { cls := .type "dict", data := .dict #[] }).push { cls := .type "cell", data := .cell none }) = h₃ at k3 c3 n3 ⊢
  have k3' : Ex h h₃ := kI.trans (kH.trans k3)
  have lD : h₃.IsList (h.objs.size + 1) #[] := by
    have : H.IsList hI.objs.size #[] := hH ▸ push_list _ _
    rw [szI] at this
    exact (k3.lst this)
  show codeAny _ A (.compStart _ 0 (.ref h.objs.size) (.ref hI.objs.size) _) _ _
  rw [szI, szH]
  refine compG (h := h) (b := b) (cenv := compEnvC scope ((x, h.objs.size + 3) :: cl) (h.objs.size + 2) env) (fun _ => False) J (Walks.list hh h.objs.size l (Nat.ne_of_lt hlt) its) hz (fun i h' hs => (let ⟨o, e, _⟩ := hs.1; ⟨o, e⟩)) (fun a ha => ?_) (fun _ x => x.elim)
    ⟨(by obtain ⟨o, e, r⟩ := itI; exact ⟨o, k3 _ _ (kH _ _ e), r⟩), (k3'.lst hl)⟩ k3' lD n3 (Nat.lt_succ_self _) (h0 _ k3' c3) mono
    (fun i v h₁ t₁ ys m₁ E' hi hP hJ k hn hx => step i v h₁ t₁ ys m₁ E' hP hJ (k.fresh fun _ x => x.elim) hn hx) (fun h₁ t₁ ys m₁ hJ hy k hl hn => ?_) (ht _)
  · rcases List.mem_cons.mp ha with rfl | ha
    · exact ⟨Nat.le_refl _, fun x => x⟩
    · rw [List.mem_singleton.mp ha]; exact ⟨Nat.le_of_lt hlt, fun x => x⟩
  · exact ⟨m₁, hn, fun h' hs' => done h₁ t₁ ys hJ hy (k.fresh fun _ x => x.elim) hl h' fun a o na e => hs'.extBut a o na e⟩
end

def colsF (n : Nat) (l : List Nat) : List Int := (List.range n).map fun k : Nat => colF (1 + (k : Int)) l
def ColOf (h : Heap) (c : Addr) (l : List Nat) : Prop := ∃ vs : List Value, h.IsList c vs.toArray ∧ IntsAre vs (colsF 6 l)
def ColL (h : Heap) (a : Addr) (ls : List (List Nat)) : Prop := ∃ xs : List Addr, h.IsList a (xs.map Value.ref).toArray ∧ xs.length = ls.length ∧ ∀ j x, xs[j]? = some x → ColOf h x (ls.getD j [])

section
variable {prog : Program} {w : World} {A : Around} {E : Value → Shared → Prop} {b : Shared} {h : Heap} {t : Nat} {mg mb : Str → Option Value} {g : Heap} {L : Addr} {m : Str → Option Value} {Q : Flow → Shared → Prop}
theorem st5 (G : Gd w mg mb g) (k : Ex g h) (r : Room A 10 30) {al : Addr} {vals : List Value} {ls : List (List Nat)} {c0 : Option Value} (hn : h.Ns L m) (hml : m "leads" = some (.ref al)) (hc : h.IsCell (L + 8) c0)
    (hl : PL h al vals) (ht : TextsAre vals ls) (hz : ls.length ≤ 100) (hls : ∀ l ∈ ls, IsLead l)
    (q : ∀ h' t' sp, ExB (· = L + 8) h h' → h'.IsCell (L + 8) (some (.ref sp)) → (∀ h'', Mid h h' h'' → ColL h'' sp ls) → Q .next (St b h' t')) :
    wpAny (model prog w) A (exec (stm w 5) (LE w L)) Q E (St b h t) := by
  refine asgC (x := "columns") (c := L + 8) ?_
  refine cellComp (b := b) (x := "lead") r.hh ?_
  refine nmL hn hml ?_
  refine ⟨h, _, al, vals.toArray, (fun i h₁ ys => (∃ v, h₁.IsCell (h.objs.size + 3) v) ∧ ∃ xs : List Addr, ys = xs.map Value.ref ∧ xs.length = i ∧ ∀ j x, xs[j]? = some x → ∀ h'', (∀ a o, h.get? a = none → ¬ (h.objs.size ≤ a ∧ a ≤ h.objs.size + 3) → h₁.get? a = some o → h''.get? a = some o) → ColOf h'' x (ls.getD j [])),
    rfl, rfl, hl.is, by rw [List.size_toArray, ht.length]; omega, fun _ _ c => ⟨⟨_, c⟩, [], rfl, rfl, fun _ _ x => by cases x⟩, ?_, ?_, ?_⟩
  · rintro i h₀ h₁ ys ⟨⟨v, z0⟩, xs, z1, z2, z3⟩ x
    refine ⟨⟨v, CellB z0 x fun c => Nat.lt_irrefl _ (Nat.lt_of_lt_of_le (Nat.lt_succ_self _) c.2)⟩, xs, z1, z2, fun j y ej h'' kk => ?_⟩
    refine z3 j y ej h'' fun a o n1 n2 e => ?_
    refine kk a o n1 n2 ?_
    exact x a o (fun c => n2 ⟨c.1, Nat.le_trans c.2 (Nat.le_succ _)⟩) e
  · rintro i v h₁ t₁ ys m₁ E' hv ⟨⟨v0, z0⟩, xs, z1, z2, z3⟩ kx n₁ hx
    obtain ⟨z, tz, rfl, hz'⟩ := ht.get (by simpa using hv)
    have hil : IsLead z.cps.toList := hls _ (List.mem_of_getElem? hz')
    obtain ⟨hcs, hlen⟩ := lead_cps hil
    have hasc : z.cps.all (· < 128) = true := ascii_of fun c hc => by rcases hcs c hc with rfl | rfl <;> decide
    refine asgNC (c := h.objs.size + 3) z0 fun h₂ c₂ k₂ => wpAny_tests_nil ?_
    simp only [if_true]
    have hC : ∀ {a : Addr} {o : Obj}, h.get? a = some o → a ≠ h.objs.size + 3 := fun e => Nat.ne_of_lt (Nat.lt_of_lt_of_le (Heap.lt_size e) (Nat.le_add_right _ _))
    have kx2 : Ex h h₂ := fun a o e => k₂ a o (hC e) (kx a o e)
    have n₂ := n₁.at' fun o e => k₂ _ o (Nat.ne_of_lt (Nat.lt_succ_self _)) e
    refine compE (b := b) ?_
    refine Call_ ?_
    refine nmB (v := .type "range") G (k.trans kx2) ?_
    refine PyProof.Rows.callWith_type1 ?_
    refine args_cons (cInt ?_)
    refine args_cons (cInt ?_)
    refine args_nil ?_
    refine rng2 fun rr h₃ t₃ t1 t2 t3 k₃ r₃ => ?_
    have kx3 := kx2.trans k₃
    refine CompQ.range r.hh r₃ (by decide) (by decide) (by decide) (by decide) (n := 6) (by decide) (by decide) (fun _ => False)
      (fun i _ ys => IntsAre ys (colsF i z.cps.toList)) (fun _ x => x.elim) (fun _ _ => .nil) (fun _ _ _ _ x _ => x)
      (fun j tk h₄ t₄ ys' m₄ E'' hj e1 k₄ n₄ _ => ?_) (fun h₄ t₄ ys' e1 _ k₄ l₄ h₅ k₅ => ?_)
    · have kx4 : Ex h₃ h₄ := k₄.fresh fun _ x => x.elim
      refine asgN n₄ fun h₅ n₅ k₅ => wpAny_tests_nil ?_
      simp only [if_true]
      have hC5 : ∀ {a : Addr} {o : Obj}, h₃.get? a = some o → a ≠ h₃.objs.size + 2 := fun e => Nat.ne_of_lt (Nat.lt_of_lt_of_le (Heap.lt_size e) (Nat.le_add_right _ _))
      have kx5 : Ex h₃ h₅ := fun a o e => k₅ a o (hC5 e) (kx4 a o e)
      have kg5 : Ex g h₅ := k.trans (kx3.trans kx5)
      refine Call_ ?_
      refine nmG (v := .ref 94) G kg5 ?_
      refine cw1 G ?_
      refine args_cons ?_
      refine nmC (CellX c₂ (k₃.trans kx5)) ?_
      refine args_cons ?_
      refine nmL n₅ (if_pos rfl) ?_
      refine args_nil ⟨kg5, ?_⟩
      refine col_spec G kg5 r hasc (by omega) (by omega) fun h₆ tk₆ t₆ k₆ => ?_
      refine ⟨h₆, _, _, rfl, (Kp.ofB k₅ fun a e => .inr (by rw [e]; exact Nat.lt_succ_self _)).trans (Kp.ofEx k₆ _ _), n₅.keeps k₆, ?_⟩
      unfold colsF
      rw [List.range_succ, List.map_append]
      exact ints_snoc e1 _ _
    · have kx4 : Ex h₃ h₄ := k₄.fresh fun _ x => x.elim
      have hC5 : ∀ {a : Addr} {o : Obj}, h₃.get? a = some o → a ≠ h₃.objs.size + 2 := fun e => Nat.ne_of_lt (Nat.lt_of_lt_of_le (Heap.lt_size e) (Nat.le_add_right _ _))
      have kx5 : Ex h₃ h₅ := fun a o e => k₅ a o (hC5 e) (kx4 a o e)
      have l₅ := LsB l₄ k₅ (Nat.ne_of_lt (Nat.lt_succ_self _))
      have k25 : Ex h₂ h₅ := k₃.trans kx5
      refine ⟨h₅, _, _, rfl, (Kp.ofB k₂ fun a e => .inr (by rw [e]; exact Nat.lt_succ_of_lt (Nat.lt_succ_self _))).trans (Kp.ofEx k25 _ _), n₂.keeps k25, ⟨_, CellX c₂ k25⟩, xs ++ [h₃.objs.size + 1], by rw [z1]; simp, by simp [z2], fun j y hj h'' kk => ?_⟩
      by_cases hjl : j < xs.length
      · rw [List.getElem?_append_left hjl] at hj
        refine z3 j y hj h'' fun a o a1 a2 e => kk a o a1 a2 (k25 _ _ (k₂ a o (fun c => a2 (by rw [c]; exact ⟨Nat.le_add_right _ _, Nat.le_refl _⟩)) e))
      · rw [List.getElem?_append_right (by omega)] at hj
        have hj0 : j = xs.length := by
          rcases Nat.eq_or_lt_of_le (Nat.le_of_not_lt hjl) with e | e
          · exact e.symm
          · rw [List.getElem?_eq_none (by simp; omega)] at hj; cases hj
        subst hj0
        simp at hj
        subst hj
        rw [List.getD_eq_getElem?_getD, z2, hz']
        obtain ⟨o, e, rr⟩ := l₅
        have hcl : h.objs.size + 3 < h₃.objs.size := by obtain ⟨o, e, _⟩ := CellX c₂ k₃; exact Heap.lt_size e
        refine ⟨ys', ⟨o, kk _ _ ?_ ?_ e, rr⟩, e1⟩
        · exact Heap.get?_none_of_le (Nat.le_trans (Nat.le_add_right _ 3) (Nat.le_of_lt (Nat.lt_succ_of_lt hcl)))
        · exact fun c => Nat.lt_irrefl _ (Nat.lt_of_lt_of_le (Nat.lt_succ_of_lt hcl) c.2)
  · rintro h₁ t₁ ys ⟨⟨v0, z0⟩, xs, z1, z2, z3⟩ _ kx l₁ h₂ k₂
    have hC : ∀ {a : Addr} {o : Obj}, h.get? a = some o → a ≠ h.objs.size + 2 := fun e => Nat.ne_of_lt (Nat.lt_of_lt_of_le (Heap.lt_size e) (Nat.le_add_right _ _))
    have kx2 : Ex h h₂ := fun a o e => k₂ a o (hC e) (kx a o e)
    refine ⟨h₂, _, _, rfl, CellX hc kx2, fun h₃ c₃ k₃ => ?_⟩
    have hcl : L + 8 < h.objs.size := by obtain ⟨o, e, _⟩ := hc; exact Heap.lt_size e
    refine q h₃ _ _ (fun a o na e => k₃ a o na (kx2 a o e)) c₃ fun h'' kk => ⟨xs, ?_, ?_, ?_⟩
    · rw [← z1]
      obtain ⟨o, e, r⟩ := LsB (LsB l₁ k₂ (Nat.ne_of_lt (Nat.lt_succ_self _))) k₃ (Nat.ne_of_gt (Nat.lt_succ_of_lt hcl))
      exact ⟨o, kk _ _ (Heap.get?_none_of_le (Nat.le_succ _)) e, r⟩
    · rw [z2, List.size_toArray, ht.length]
    · intro j x hj
      refine z3 j x hj h'' fun a o a1 a2 e => kk a o a1 (k₃ a o (fun c => ?_) (k₂ a o (fun c => a2 (by rw [c]; exact ⟨Nat.le_add_right _ _, Nat.le_succ _⟩)) e))
      obtain ⟨o', e', _⟩ := hc
      rw [c, e'] at a1; cases a1
end
end
end Mine

namespace Mine
section
open PySem PySem.W PyProof.Rows PySem.SeqAt
def RowP (h : Heap) (a : Addr) (ns : List Nat) : Prop := ∃ vs : List Value, PL h a vs ∧ IntsAre vs (ns.map fun n : Nat => (n : Int))

section
variable {prog : Program} {w : World} {A : Around} {E : Value → Shared → Prop} {env : Env} {b : Shared} {h : Heap} {t : Nat} {mg mb : Str → Option Value} {g : Heap} {L : Addr} {m : Str → Option Value}
/-- [[] for lead in SOURCE] -/
theorem emptyRows {iter : Expr} {scope : Scope} {cl : List (Str × Addr)} {p1 p2 pos : Pos} {Q : Value → Shared → Prop} {s : Shared} {n : Nat} (hh : A.handled = none)
    (q : wpAny (model prog w) A (eval iter env) (fun xv s₁ => ∃ l h t its, xv = .ref l ∧ s₁ = St b h t ∧ h.IsList l its ∧ its.size = n ∧ n ≤ 1000 ∧
      ∀ D h' t' (as : List Addr), Ex h h' → h.get? D = none → as.length = n → as.Nodup → (∀ a ∈ as, h.get? a = none ∧ PL h' a []) → D ∉ as → h'.IsList D (as.map Value.ref).toArray → Q (.ref D) (St b h' t')) E s)
    (hclos : closureFor scope env = pure cl := by rfl) (hkO : ∀ C, (compEnvC scope cl C env).kindOf "lead" = some .local := by intro _; with_unfolding_all rfl) (hcell : (scope.names.all fun x => decide (x.2 ≠ .cell)) = true := by rfl) (hkind : scope.kind = .function := by rfl)
    (hnames : (scope.names.all fun x => decide (x.2 = .local → scope.names.lookup x.1 = some .local)) = true := by rfl) (hs : ∀ x, foldedSetIterable iter env x = pure x := by intro _; rfl) :
    wpAny (model prog w) A (eval (.ListComp (.List [] p1) [⟨.Name "lead" p2, iter, [], 0⟩] scope pos) env) Q E s := by
  refine compE (b := b) (wpAny_mono q (fun xv s₁ q₁ => ?_) fun _ _ x => x) hclos hcell hkind hnames hs
  obtain ⟨l, h, t, its, rfl, rfl, hl, hin, hnz, q₂⟩ := q₁
  refine CompQ.list hh hl (by omega) (fun _ => False) (fun i h₁ ys => ∃ as : List Addr, ys = as.map Value.ref ∧ as.length = i ∧ as.Nodup ∧ ∀ a ∈ as, h.get? a = none ∧ h.objs.size + 2 < a ∧ PL h₁ a []) (fun _ x => x.elim) (fun x => x) (fun _ _ => ⟨[], rfl, rfl, List.nodup_nil, fun _ x => by cases x⟩) ?_
    (fun i v h₁ t₁ ys m₁ E' hv hj k hn hx => ?_) (fun h₁ t₁ ys hj _ k hD h' k' => ?_)
  · rintro i h₀ h₁ ys ⟨as, z1, z2, z3, z4⟩ x
    exact ⟨as, z1, z2, z3, fun a ha => ⟨(z4 a ha).1, (z4 a ha).2.1, (z4 a ha).2.2.but x fun c => Nat.lt_irrefl _ (Nat.lt_of_lt_of_le (z4 a ha).2.1 c.2)⟩⟩
  · obtain ⟨as, z1, z2, z3, z4⟩ := hj
    have kx : Ex h h₁ := k.fresh fun _ x => x.elim
    refine asgN hn (fun h₂ n₂ k₂ => wpAny_tests_nil ?_) hkind (hkO _)
    simp only [if_true]
    have hCs : h.objs.size + 2 < h₂.objs.size := n₂.lt
    refine List_ ?_
    refine args_nil ?_
    refine nPL (Nat.le_of_ble_eq_true rfl) fun h₃ k₃ l₃ => ?_
    have hold : ∀ a ∈ as, PL h₂ a [] := fun a ha => (z4 a ha).2.2.but k₂ (Nat.ne_of_gt (z4 a ha).2.1)
    refine ⟨h₃, _, _, rfl, (Kp.ofB k₂ fun a e => .inr (by rw [e]; exact Nat.lt_succ_self _)).trans (Kp.ofEx k₃ _ _), n₂.keeps k₃, as ++ [h₂.objs.size], by rw [z1]; simp, by simp [z2], ?_, fun a ha => ?_⟩
    · refine List.nodup_append.mpr ⟨z3, by simp, fun a ha b hb => ?_⟩
      rw [List.mem_singleton.mp hb]
      obtain ⟨n, e⟩ := hold a ha
      exact Nat.ne_of_lt (Heap.lt_size e)
    · rcases List.mem_append.mp ha with ha | ha
      · exact ⟨(z4 a ha).1, (z4 a ha).2.1, (hold a ha).ex k₃⟩
      · rw [List.mem_singleton.mp ha]
        exact ⟨Heap.get?_none_of_le (Nat.le_trans (Nat.le_add_right _ 2) (Nat.le_of_lt hCs)), hCs, l₃⟩
  · obtain ⟨as, z1, z2, z3, z4⟩ := hj
    have kx : Ex h h₁ := k.fresh fun _ x => x.elim
    have hC : ∀ {a : Addr} {o : Obj}, h.get? a = some o → a ≠ h.objs.size + 2 := fun e => Nat.ne_of_lt (Nat.lt_of_lt_of_le (Heap.lt_size e) (Nat.le_add_right _ _))
    refine q₂ _ h' _ as (fun a o e => k' a o (hC e) (kx a o e)) (Heap.get?_none_of_le (Nat.le_succ _)) (z2.trans hin) z3 (fun a ha => ⟨(z4 a ha).1, (z4 a ha).2.2.but k' (Nat.ne_of_gt (z4 a ha).2.1)⟩) (fun c => ?_) (z1 ▸ LsB hD k' (Nat.ne_of_lt (Nat.lt_succ_self _)))
    exact Nat.lt_irrefl _ (Nat.lt_of_succ_lt (z4 _ c).2.1)
end

section
variable {prog : Program} {w : World} {A : Around} {E : Value → Shared → Prop} {b : Shared} {h : Heap} {t : Nat} {mg mb : Str → Option Value} {g : Heap} {L : Addr} {m : Str → Option Value} {Q : Flow → Shared → Prop}
theorem st6 (hh : A.handled = none) {al : Addr} {vals : List Value} {c4 c5 : Option Value} (hn : h.Ns L m) (hml : m "leads" = some (.ref al)) (h4 : h.IsCell (L + 4) c4) (h5 : h.IsCell (L + 5) c5)
    (hl : PL h al vals) (hv : vals.length = 5)
    (q : ∀ h' t' ud od (ua oa : List Addr), ExB (fun a => a = L + 4 ∨ a = L + 5) h h' → h'.IsCell (L + 4) (some (.ref ud)) → h'.IsCell (L + 5) (some (.ref od)) → h.get? ud = none → h.get? od = none → ua.length = 5 → oa.length = 5 → (ua ++ oa).Nodup →
      (∀ a ∈ ua ++ oa, h.get? a = none ∧ PL h' a []) → ud ∉ ua ++ oa → od ∉ ua ++ oa → h'.IsList ud (ua.map Value.ref).toArray → h'.IsList od (oa.map Value.ref).toArray → Q .next (St b h' t')) :
    wpAny (model prog w) A (exec (stm w 6) (LE w L)) Q E (St b h t) := by
  refine Assign_Tuple ?_
  refine Tuple_ ?_
  refine args_cons ?_
  refine emptyRows (b := b) (n := 5) hh ?_
  refine nmL hn hml ?_
  refine ⟨al, h, _, vals.toArray, rfl, rfl, hl.is, by rw [List.size_toArray]; exact hv, by decide, fun ud h₁ t₁ ua k₁ u1 u2 u3 u4 u5 u6 => ?_⟩
  refine args_cons ?_
  refine emptyRows (b := b) (n := 5) hh ?_
  refine nmL (hn.keeps k₁) hml ?_
  refine ⟨al, h₁, _, vals.toArray, rfl, rfl, (hl.ex k₁).is, by rw [List.size_toArray]; exact hv, by decide, fun od h₂ t₂ oa k₂ o1 o2 o3 o4 o5 o6 => ?_⟩
  refine args_nil ?_
  refine nTuple (Nat.le_of_ble_eq_true rfl) fun h₃ k₃ T₃ => ?_
  have k₁₃ := k₁.trans (k₂.trans k₃)
  have c4' := CellX h4 k₁₃
  have c5' := CellX h5 k₁₃
  have hlive : ∀ a ∈ ua, ∃ o, h₁.get? a = some o := fun a ha => by obtain ⟨n, e⟩ := (u4 a ha).2; exact ⟨_, e⟩
  have n1 : ∀ {a : Addr}, h₁.get? a = none → h.get? a = none := fun {a} e => by
    cases e2 : h.get? a with
    | none => rfl
    | some o => rw [k₁ _ _ e2] at e; cases e
  refine wpAny_assign_Tuple hh T₃ rfl rfl fun h₄ k₄ => ?_
  have hTl : ∀ {a : Addr} {o : Obj}, h₃.get? a = some o → a ≠ h₃.objs.size := fun e => Nat.ne_of_lt (Heap.lt_size e)
  have k₄' : Ex h₃ h₄ := fun a o e => k₄ a o (hTl e) e
  show wpAny _ _ (assignInOrder [assign (.Name "under" _) (LE w L), assign (.Name "over" _) (LE w L)] [.ref ud, .ref od]) _ _ (St b h₄ _)
  have hne : L + 4 ≠ L + 5 := Nat.ne_of_lt (Nat.lt_succ_self _)
  refine wpAny_assignInOrder_more (asgNC (c := L + 4) (CellX c4' k₄') fun h₅ c₅ k₅ => ?_)
  refine wpAny_assignInOrder_more (asgNC (c := L + 5) (CellB (CellX c5' k₄') k₅ (Ne.symm hne)) fun h₆ c₆ k₆ => ?_)
  refine wpAny_assignInOrder_none ?_
  have kk : ∀ {a : Addr} {o : Obj}, h₂.get? a = some o → h.get? a = none → h₆.get? a = some o := fun {a o} e f => by
    refine k₆ a o (fun c => ?_) (k₅ a o (fun c => ?_) (k₄' _ _ (k₃ _ _ e)))
    · obtain ⟨o', e', _⟩ := h5; rw [c, e'] at f; cases f
    · obtain ⟨o', e', _⟩ := h4; rw [c, e'] at f; cases f
  have hdis : ∀ a ∈ ua, ∀ c ∈ oa, a ≠ c := fun a ha c hc e => by
    obtain ⟨o', e'⟩ := hlive a ha
    rw [e, (o4 c hc).1] at e'; cases e'
  refine q h₆ _ ud od ua oa (fun a o na e => k₆ a o (fun c => na (.inr c)) (k₅ a o (fun c => na (.inl c)) (k₄' _ _ (k₁₃ _ _ e)))) (CellB c₅ k₆ hne) c₆ u1 (n1 o1) u2 o2 (List.nodup_append.mpr ⟨u3, o3, hdis⟩) ?_ ?_ ?_ ?_ ?_
  · intro a ha
    rcases List.mem_append.mp ha with ha | ha
    · obtain ⟨n, e⟩ := (u4 a ha).2
      exact ⟨(u4 a ha).1, n, kk (k₂ _ _ e) (u4 a ha).1⟩
    · obtain ⟨n, e⟩ := (o4 a ha).2
      exact ⟨n1 (o4 a ha).1, n, kk e (n1 (o4 a ha).1)⟩
  · intro c
    rcases List.mem_append.mp c with c | c
    · exact u5 c
    · obtain ⟨o, e, _⟩ := u6
      rw [(o4 _ c).1] at e; cases e
  · intro c
    rcases List.mem_append.mp c with c | c
    · obtain ⟨o, e⟩ := hlive _ c
      rw [o1] at e; cases e
    · exact o5 c
  · obtain ⟨o, e, r⟩ := u6; exact ⟨o, kk (k₂ _ _ e) u1, r⟩
  · obtain ⟨o, e, r⟩ := o6; exact ⟨o, kk e (n1 o1), r⟩
end
end
end Mine

namespace Mine
section
open PySem PySem.W PyProof.Rows PySem.SeqAt
section
variable {prog : Program} {w : World} {A : Around} {E : Value → Shared → Prop} {env : Env} {b : Shared} {h : Heap} {t : Nat} {mg mb : Str → Option Value} {g : Heap} {L : Addr} {m : Str → Option Value}
theorem ltBools (cs ds : List Int) (n : Nat) : ∀ i, i ≤ n → ((List.range n).map fun k => Value.bool (decide (cs.getD k 0 < ds.getD k 0))).take i = (List.range i).map fun k => Value.bool (decide (cs.getD k 0 < ds.getD k 0)) := by
  intro i hi
  rw [← List.map_take, List.take_range, Nat.min_eq_left hi]
theorem zipQ {scope : Scope} {cl : List (Str × Addr)} {p1 p2 p3 p4 p5 p6 : Pos} {Q : Value → Addr → Heap → Nat → Prop} {h h' : Heap} {l1 l2 : Addr} {xs ys : List Value} {cs ds : List Int} {n : Nat} (hh : A.handled = none) (hl1 : h.IsList l1 xs.toArray) (hl2 : h.IsList l2 ys.toArray)
    (hz : IsZip h' (h.objs.size + 4) (h.objs.size + 2) (h.objs.size + 3) .none) (hTI : IsPair h' (h.objs.size + 2) (.ref h.objs.size) (.ref (h.objs.size + 1))) (hTO : IsPair h' (h.objs.size + 3) .none .none) (hi1 : h'.IsListIter h.objs.size l1 0) (hi2 : h'.IsListIter (h.objs.size + 1) l2 0) (hsz : h'.objs.size = h.objs.size + 5) (k : Ex h h')
    (i1 : IntsAre xs cs) (i2 : IntsAre ys ds) (n1 : cs.length = n) (n2 : ds.length = n) (hn : n ≤ 1000)
    (done : ∀ h₁ t₁, Ex h h₁ → BoolsL h₁ h'.objs.size ((List.range n).map fun k => decide (cs.getD k 0 < ds.getD k 0)) → Q (.ref h'.objs.size) (h'.objs.size + 1) h₁ t₁)
    (hkA : (compEnvC scope cl (h'.objs.size + 1) env).kindOf "a" = some .local) (hkB : (compEnvC scope cl (h'.objs.size + 1) env).kindOf "b" = some .local) (hkind : scope.kind = .function := by rfl) :
    PairQ prog w A b env scope cl (.Compare (.Name "a" p1) [.Lt] [.Name "b" p2] p3) (.Tuple [.Name "a" p4, .Name "b" p5] 0 p6) Q (.ref (h.objs.size + 4)) (St b h' t) := by
  have hlt1 : l1 < h.objs.size := by obtain ⟨o, e, _⟩ := hl1; exact Heap.lt_size e
  have hlt2 : l2 < h.objs.size := by obtain ⟨o, e, _⟩ := hl2; exact Heap.lt_size e
  have D : ZipApart (h.objs.size + 4) (h.objs.size + 2) (h.objs.size + 3) h.objs.size (h.objs.size + 1) l1 l2 := ktu_apart _ _ _ hlt1 hlt2
  have exs : xs.length = n := by rw [i1.length, n1]
  have eys : ys.length = n := by rw [i2.length, n2]
  have hmin : min xs.toArray.size ys.toArray.size = n := by rw [List.size_toArray, List.size_toArray, exs, eys, Nat.min_self]
  have W := KTurns.ofWalksU (elts := [.Name "a" p4, .Name "b" p5]) (k := 0) (pos := p6) (WalksT.zip2 (prog := prog) (w := w) (A := A) hh _ _ _ _ _ _ _ D xs.toArray ys.toArray).toU
  rw [hmin] at W
  refine ⟨h, h', t, h.objs.size, h.objs.size + 4, n, _, _, _, _, _, (fun _ => False), (fun i _ zs => i ≤ n ∧ zs = (List.range i).map fun k => Value.bool (decide (cs.getD k 0 < ds.getD k 0))), rfl, rfl, W, (fun s Q E hst q => wpAny_pyIter_zip hst.1 q), by omega, ?_, ?_, fun _ x => x.elim,
    ⟨hz, hTI, ⟨_, _, hTO⟩, hi1, hi2, (k.lst hl1), (k.lst hl2)⟩, Nat.le_refl _, by rw [hsz]; exact Nat.le_add_right _ _, k, fun _ _ => ⟨Nat.zero_le _, rfl⟩, fun _ _ _ _ x _ => x, ?_, ?_⟩
  · intro a ha
    simp at ha
    rcases ha with rfl | rfl | rfl | rfl
    · exact Nat.le_add_right _ _
    · exact Nat.le_add_right _ _
    · exact Nat.le_refl _
    · exact Nat.le_add_right _ _
  · intro a ha
    rw [hsz]
    simp at ha
    refine ⟨?_, fun x => x⟩
    have hs : (h.objs.size : Nat) < h.objs.size + 5 := by omega
    rcases ha with rfl | rfl | rfl | rfl | rfl | rfl | rfl
    · exact Nat.add_lt_add_left (by decide) _
    · exact Nat.add_lt_add_left (by decide) _
    · exact Nat.add_lt_add_left (by decide) _
    · exact hs
    · exact Nat.add_lt_add_left (by decide) _
    · exact Nat.lt_trans hlt1 hs
    · exact Nat.lt_trans hlt2 hs
  · rintro i v h₃ t₃ zs m₃ E' hi ⟨T, vals, rfl, ⟨x, y, hx, hy, rfl⟩, hT⟩ ⟨_, e1⟩ k₃ n₃
    obtain ⟨u, rfl⟩ := i1.int_at i x (by simpa using hx)
    obtain ⟨u', rfl⟩ := i2.int_at i y (by simpa using hy)
    refine asgT2 hh hT n₃ (fun h₄ t₄ n₄ k₄ => ?_) hkind hkA hkB
    refine wpAny_Compare1 ?_
    refine nmL n₄ (v := .int (cs.getD i 0) u) (by simp only [ofString_inj]; rfl) ?_ hkind hkA (by decide +kernel)
    refine nmL n₄ (if_pos rfl) ?_ hkind hkB (by decide +kernel)
    refine ltI ?_
    refine ⟨h₄, _, _, rfl, Kp.ofB k₄ fun a e => .inr (by rw [e]; exact Nat.lt_succ_self _), n₄, hi, ?_⟩
    rw [e1, List.range_succ, List.map_append]
    rfl
  · rintro h₁ t₁ zs ⟨_, e1⟩ _ k₁ l₁
    refine done h₁ t₁ (k₁.fresh fun _ x => x.elim) ?_
    unfold BoolsL
    rw [List.map_map]
    rw [e1] at l₁
    exact l₁
end

def colLess (l l' : List Nat) : Bool := ((List.range 6).map fun k => decide ((colsF 6 l).getD k 0 < (colsF 6 l').getD k 0)).all id
def lessL (l l' : List Nat) : Bool := lessF (scan l).cs (scan l).b (scan l).n (scan l).nt (scan l').cs (scan l').b (scan l').n (scan l').nt

/-- what stands from the seventh statement on -/
structure Cst (g h : Heap) (L sp cl ud od : Addr) (ua oa : List Addr) (ls : List (List Nat)) : Prop where
  old : Ex g h
  c9 : h.IsCell (L + 9) (some (.ref sp))
  c8 : h.IsCell (L + 8) (some (.ref cl))
  c4 : h.IsCell (L + 4) (some (.ref ud))
  c5 : h.IsCell (L + 5) (some (.ref od))
  sp : SpL h sp ls
  cl : ColL h cl ls
  ud : h.IsList ud (ua.map Value.ref).toArray
  od : h.IsList od (oa.map Value.ref).toArray
theorem SpL.ex {h h' : Heap} {a : Addr} {ls : List (List Nat)} (x : SpL h a ls) (k : Ex h h') : SpL h' a ls := let ⟨xs, l, z, r⟩ := x; ⟨xs, (k.lst l), z, fun j y e => Ws.ex (r j y e) k⟩
theorem ColL.ex {h h' : Heap} {a : Addr} {ls : List (List Nat)} (x : ColL h a ls) (k : Ex h h') : ColL h' a ls := let ⟨xs, l, z, r⟩ := x; ⟨xs, (k.lst l), z, fun j y e => let ⟨vs, l, i⟩ := r j y e; ⟨vs, (k.lst l), i⟩⟩
theorem Cst.ex {g h h' : Heap} {L sp cl ud od : Addr} {ua oa : List Addr} {ls : List (List Nat)} (x : Cst g h L sp cl ud od ua oa ls) (k : Ex h h') : Cst g h' L sp cl ud od ua oa ls :=
  ⟨x.old.trans k, CellX x.c9 k, CellX x.c8 k, CellX x.c4 k, CellX x.c5 k, x.sp.ex k, x.cl.ex k, (k.lst x.ud), (k.lst x.od)⟩
def RowsF (h : Heap) (as : List Addr) (f : Nat → List Nat) : Prop := ∀ i a, as[i]? = some a → RowP h a (f i)
theorem RowP.ex {h h' : Heap} {a : Addr} {ns : List Nat} (x : RowP h a ns) (k : Ex h h') : RowP h' a ns := let ⟨vs, l, i⟩ := x; ⟨vs, l.ex k, i⟩
theorem RowP.but {h h' : Heap} {a : Addr} {ns : List Nat} {W : Addr → Prop} (x : RowP h a ns) (k : ExB W h h') (n : ¬ W a) : RowP h' a ns := let ⟨vs, l, i⟩ := x; ⟨vs, l.but k n, i⟩
theorem RowsF.ex {h h' : Heap} {as : List Addr} {f : Nat → List Nat} (x : RowsF h as f) (k : Ex h h') : RowsF h' as f := fun i a e => (x i a e).ex k
theorem RowsF.but {h h' : Heap} {as : List Addr} {f : Nat → List Nat} {W : Addr → Prop} (x : RowsF h as f) (k : ExB W h h') (n : ∀ a ∈ as, ¬ W a) : RowsF h' as f := fun i a e => (x i a e).but k (n a (List.mem_of_getElem? e))
theorem RowsF.at {h h' : Heap} {as : List Addr} {f : Nat → List Nat} {j n : Nat} {a : Addr} (x : RowsF h as f) (hn : as.Nodup) (hj : as[j]? = some a) (k : ExB (· = a) h h') (r : RowP h' a (f j ++ [n])) : RowsF h' as (fun i => if i = j then f i ++ [n] else f i) := by
  intro i c e
  by_cases hi : i = j
  · subst hi
    rw [hj] at e; cases e
    show RowP h' a (if i = i then f i ++ [n] else f i)
    rw [if_pos rfl]; exact r
  · show RowP h' c (if i = j then f i ++ [n] else f i)
    rw [if_neg hi]
    refine (x i c e).but k fun q => hi ?_
    subst q
    obtain ⟨h1, e1⟩ := List.getElem?_eq_some_iff.mp e
    obtain ⟨h2, e2⟩ := List.getElem?_eq_some_iff.mp hj
    exact (List.getElem_inj hn).mp (e1.trans e2.symm)
end
end Mine

namespace Mine
section
open PySem PySem.W PyProof.Rows PySem.SeqAt
def tld (ls : List (List Nat)) (i j : Nat) : Bool := colLess (ls.getD i []) (ls.getD j [])
def fullU (ls : List (List Nat)) (n o : Nat) : List Nat := (List.range n).filter fun x => tld ls x o
def fullO (ls : List (List Nat)) (n x : Nat) : List Nat := (List.range n).filter fun o => tld ls x o

section
variable {prog : Program} {w : World} {A : Around} {E : Value → Shared → Prop} {b : Shared} {h : Heap} {t : Nat} {mg mb : Str → Option Value} {g : Heap} {L : Addr} {m : Str → Option Value} {Q : Flow → Shared → Prop}

/-- spaces[x], columns[x] -/
theorem getSp {value slice : Expr} {a : Addr} {ls : List (List Nat)} {j : Nat} {u : Tok} {Q : Value → Shared → Prop} (hl : SpL h a ls) (hj : j < ls.length) (hz : ls.length ≤ 1000) (q : ∀ x, WsOf h x (ls.getD j []) → Q (.ref x) (St b h t))
    (hs : subscripted slice false (.ref a) (.int (j : Int) u) = operate [.ref a, .int (j : Int) u] (getItem (.ref a) (.int (j : Int) u)) := by with_unfolding_all rfl) :
    wpAny (model prog w) A (subscriptTail value slice (.ref a) (.int (j : Int) u)) Q E (St b h t) := by
  obtain ⟨xs, l1, z, r⟩ := hl
  have hk' : j < xs.length := by omega
  exact itemL l1 (Int.natCast_nonneg _) (by omega) (x := .ref xs[j]) (by simp [hk']) (q _ (r j _ (List.getElem?_eq_getElem hk'))) hs
theorem getCl {value slice : Expr} {a : Addr} {ls : List (List Nat)} {j : Nat} {u : Tok} {Q : Value → Shared → Prop} (hl : ColL h a ls) (hj : j < ls.length) (hz : ls.length ≤ 1000) (q : ∀ x, ColOf h x (ls.getD j []) → Q (.ref x) (St b h t))
    (hs : subscripted slice false (.ref a) (.int (j : Int) u) = operate [.ref a, .int (j : Int) u] (getItem (.ref a) (.int (j : Int) u)) := by with_unfolding_all rfl) :
    wpAny (model prog w) A (subscriptTail value slice (.ref a) (.int (j : Int) u)) Q E (St b h t) := by
  obtain ⟨xs, l1, z, r⟩ := hl
  have hk' : j < xs.length := by omega
  exact itemL l1 (Int.natCast_nonneg _) (by omega) (x := .ref xs[j]) (by simp [hk']) (q _ (r j _ (List.getElem?_eq_getElem hk'))) hs
theorem getAs {value slice : Expr} {a : Addr} {as : List Addr} {j : Nat} {u : Tok} {Q : Value → Shared → Prop} (hl : h.IsList a (as.map Value.ref).toArray) (hj : j < as.length) (hz : as.length ≤ 1000) (q : ∀ x, as[j]? = some x → Q (.ref x) (St b h t))
    (hs : subscripted slice false (.ref a) (.int (j : Int) u) = operate [.ref a, .int (j : Int) u] (getItem (.ref a) (.int (j : Int) u)) := by with_unfolding_all rfl) :
    wpAny (model prog w) A (subscriptTail value slice (.ref a) (.int (j : Int) u)) Q E (St b h t) :=
  itemL hl (Int.natCast_nonneg _) (by omega) (x := .ref as[j]) (by simp [hj]) (q _ (List.getElem?_eq_getElem hj)) hs

theorem RowsF.congr {h : Heap} {as : List Addr} {f f' : Nat → List Nat} (x : RowsF h as f) (e : ∀ i, i < as.length → f i = f' i) : RowsF h as f' := fun i a ha => by
  rw [← e i (List.getElem?_eq_some_iff.mp ha).1]; exact x i a ha
theorem fullU_succ (ls : List (List Nat)) (n o : Nat) : fullU ls (n + 1) o = fullU ls n o ++ (if tld ls n o then [n] else []) := by
  unfold fullU; rw [List.range_succ, List.filter_append]
  cases h : tld ls n o <;> simp [h]
theorem fullO_succ (ls : List (List Nat)) (n x : Nat) : fullO ls (n + 1) x = fullO ls n x ++ (if tld ls x n then [n] else []) := by
  unfold fullO; rw [List.range_succ, List.filter_append]
  cases h : tld ls x n <;> simp [h]
theorem fullU_len (ls : List (List Nat)) (n o : Nat) : (fullU ls n o).length ≤ n := by unfold fullU; exact Nat.le_trans (List.length_filter_le ..) (by simp)
theorem fullO_len (ls : List (List Nat)) (n o : Nat) : (fullO ls n o).length ≤ n := by unfold fullO; exact Nat.le_trans (List.length_filter_le ..) (by simp)
/-- o.append(n), to a row -/
theorem appRow {l : Addr} {ns : List Nat} {n : Nat} {u : Tok} {Q : Value → Shared → Prop} (hl : RowP h l ns) (hz : ns.length ≤ 1000) (q : ∀ h', RowP h' l (ns ++ [n]) → ExB (· = l) h h' → Q .none (St b h' t)) : wpAny (model prog w) A (call (.builtin "list.append") [.ref l, .int (n : Int) u]) Q E (St b h t) := by
  obtain ⟨vs, p, i⟩ := hl
  refine appL p (by rw [i.length, List.length_map]; exact hz) fun h' p' k => q h' ⟨_, p', ?_⟩ k
  rw [List.map_append]
  exact ints_snoc i _ _

theorem st7 (G : Gd w mg mb g) (hgL : g.objs.size ≤ L) (r : Room A 30 70) {ad sp cl ud od : Addr} {ua oa : List Addr} {ls : List (List Nat)} (hn : h.Ns L m) (hmd : m "drawn" = some (.ref ad))
    (hls : ls.length = 5) (hil : ∀ l ∈ ls, IsLead l) (hLes : ∀ i j, i < 5 → j < 5 → lessL (ls.getD i []) (ls.getD j []) = tld ls i j)
    (hEq : ∀ i j, i < 5 → j < 5 → decide ((scan (ls.getD i [])).cs = (scan (ls.getD j [])).cs ∧ ((scan (ls.getD i [])).b : Int) = ((scan (ls.getD j [])).b : Int)) = decide (colsF 6 (ls.getD i []) = colsF 6 (ls.getD j [])))
    (hua : ua.length = 5) (hoa : oa.length = 5) (hnd : (ua ++ oa).Nodup) (hu0 : ∀ a ∈ ua ++ oa, PL h a []) (hLu : L ∉ ua ++ oa)
    (hK : ∀ h', ExB (fun a => a = L ∨ a ∈ ua ++ oa) h h' → Cst g h' L sp cl ud od ua oa ls)
    (q : ∀ h' t' m', ExB (fun a => a = L ∨ a ∈ ua ++ oa) h h' → h'.Ns L m' → m' "drawn" = some (.ref ad) → RowsF h' ua (fullU ls 5) → RowsF h' oa (fullO ls 5) → Q .next (St b h' t')) :
    wpAny (model prog w) A (exec (stm w 7) (LE w L)) Q E (St b h t) := by
  have hM : ∀ a, (a = L ∨ a ∈ ua ++ oa) → a < h.objs.size := fun a c => c.elim (fun e => e ▸ hn.lt) fun c => by obtain ⟨n, e⟩ := hu0 a c; exact Heap.lt_size e
  have hndu := (List.nodup_append.mp hnd).1
  have hndo := (List.nodup_append.mp hnd).2.1
  have hdis := (List.nodup_append.mp hnd).2.2
  have C0 := hK h (ExB.refl _ _)
  refine wpAny_For ?_
  refine Call_ ?_
  refine nmB (v := .type "range") G C0.old ?_
  refine PyProof.Rows.callWith_type1 ?_
  refine args_cons (cInt ?_)
  refine args_nil ?_
  refine rng1 fun rr h₁ t₁ u1 u2 u3 k₁ r₁ => ?_
  refine forRange r.hh r₁ (by decide) (by decide) (by decide) (by decide) (n := 5) (by decide) (fun a => a = L ∨ a ∈ ua ++ oa)
    (fun i h₁ => ∃ m', h₁.Ns L m' ∧ m' "drawn" = some (.ref ad) ∧ RowsF h₁ ua (fullU ls i) ∧ RowsF h₁ oa (fun x => if x < i then fullO ls 5 x else []))
    (fun a c => ?_) (fun h' x => ?_) (fun i h₀ h₂ ⟨m', z1, z2, z3, z4⟩ x => ?_) (fun i tk h₂ t₂ E' hi ⟨m', z1, z2, z3, z4⟩ k₂ _ => ?_) fun h₂ t₂ ⟨m', z1, z2, z3, z4⟩ k₂ => ?_
  · rcases c with c | c
    · rw [c]; exact (hn.keeps k₁).lt
    · obtain ⟨n, e⟩ := (hu0 a c).ex k₁; exact Heap.lt_size e
  · refine ⟨m, (hn.keeps k₁).keeps x, hmd, fun i a e => ?_, fun i a e => ?_⟩
    · exact ⟨[], ((hu0 a (List.mem_append_left _ (List.mem_of_getElem? e))).ex k₁).ex x, .nil⟩
    · exact ⟨[], ((hu0 a (List.mem_append_right _ (List.mem_of_getElem? e))).ex k₁).ex x, by show IntsAre [] (List.map _ (if i < 0 then _ else [])); rw [if_neg (by omega)]; exact .nil⟩
  · have hne : ∀ a, (a = L ∨ a ∈ ua ++ oa) → ¬ a = h₁.objs.size := fun a c e => by
      rcases c with c | c
      · have := (hn.keeps k₁).lt; rw [← c, e] at this; exact Nat.lt_irrefl _ this
      · obtain ⟨n, e'⟩ := (hu0 a c).ex k₁; have := Heap.lt_size e'; rw [e] at this; exact Nat.lt_irrefl _ this
    exact ⟨m', z1.at' fun o e => x _ o (hne _ (.inl rfl)) e, z2, z3.but x fun a ha => hne a (.inr (List.mem_append_left _ ha)), z4.but x fun a ha => hne a (.inr (List.mem_append_right _ ha))⟩
  · refine asgN z1 fun h₃ n₃ k₃ => ?_
    have kM3 : ExB (fun a => a = L ∨ a ∈ ua ++ oa) h h₃ := fun a o na e => k₃ a o (fun c => na (.inl c)) (k₂ a o na (k₁ a o e))
    have C3 := hK h₃ kM3
    have u3 := z3.but k₃ fun a ha c => hLu ((show a = L from c) ▸ List.mem_append_left _ ha)
    have o3 := z4.but k₃ fun a ha c => hLu ((show a = L from c) ▸ List.mem_append_right _ ha)
    refine wpAny_execs_cons ?_
    refine wpAny_For ?_
    refine Call_ ?_
    refine nmB (v := .type "range") G C3.old ?_
    refine PyProof.Rows.callWith_type1 ?_
    refine args_cons (cInt ?_)
    refine args_nil ?_
    refine rng1 fun rr h₄ t₄ u1 u2 u3' k₄ r₄ => ?_
    have kM4 : ExB (fun a => a = L ∨ a ∈ ua ++ oa) h h₄ := kM3.trans (k₄.but _)
    have n₄ := n₃.keeps k₄
    have hne4 : ∀ a, (a = L ∨ a ∈ ua ++ oa) → a < h₄.objs.size := fun a c => by
      rcases c with c | c
      · rw [c]; exact n₄.lt
      · rcases List.mem_append.mp c with c | c
        · obtain ⟨j, hj, e⟩ := List.getElem_of_mem c
          obtain ⟨vs, ⟨n, e'⟩, _⟩ := (u3.ex k₄) j a (by rw [← e]; exact List.getElem?_eq_getElem hj)
          exact Heap.lt_size e'
        · obtain ⟨j, hj, e⟩ := List.getElem_of_mem c
          obtain ⟨vs, ⟨n, e'⟩, _⟩ := (o3.ex k₄) j a (by rw [← e]; exact List.getElem?_eq_getElem hj)
          exact Heap.lt_size e'
    refine forRange r.hh r₄ (by decide) (by decide) (by decide) (by decide) (n := 5) (by decide) (fun a => a = L ∨ a ∈ ua ++ oa)
      (fun j h₅ => ∃ m', h₅.Ns L m' ∧ m' "drawn" = some (.ref ad) ∧ (∃ t', m' "one" = some (.int (i : Int) t')) ∧ RowsF h₅ ua (fun o => if o < j then fullU ls (i + 1) o else fullU ls i o) ∧ RowsF h₅ oa (fun x => if x < i then fullO ls 5 x else if x = i then fullO ls j x else []))
      hne4 (fun h' x => ?_) (fun j h₀ h₅ ⟨m', z1, z2, z0, z3, z4⟩ x => ?_) (fun j tk h₅ t₅ E'' hj ⟨m', z1, z2, ⟨t', z0⟩, z3, z4⟩ k₅ _ => ?_) fun h₅ t₅ ⟨m', z1, z2, z0, z3, z4⟩ k₅ => ?_
    · refine ⟨_, n₄.keeps x, (if_neg (by rw [ofString_inj]; decide)).trans z2, ⟨tk, by simpa using if_pos rfl⟩, ((u3.ex k₄).ex x).congr fun o _ => ?_, ((o3.ex k₄).ex x).congr fun o _ => ?_⟩
      · rw [if_neg (Nat.not_lt_zero _)]
      · by_cases c : o < i
        · rw [if_pos c, if_pos c]
        · rw [if_neg c, if_neg c]; split <;> rfl
    · have hne : ∀ a, (a = L ∨ a ∈ ua ++ oa) → ¬ a = h₄.objs.size := fun a c e => Nat.ne_of_lt (hne4 a c) e
      exact ⟨m', z1.at' fun o e => x _ o (hne _ (.inl rfl)) e, z2, z0, z3.but x fun a ha => hne a (.inr (List.mem_append_left _ ha)), z4.but x fun a ha => hne a (.inr (List.mem_append_right _ ha))⟩
    · refine asgN z1 fun h₆ n₆ k₆ => ?_
      have kM6 : ExB (fun a => a = L ∨ a ∈ ua ++ oa) h h₆ := fun a o na e => k₆ a o (fun c => na (.inl c)) (k₅ a o na (kM4 a o na e))
      have C6 := hK h₆ kM6
      have u6 := z3.but k₆ fun a ha c => hLu ((show a = L from c) ▸ List.mem_append_left _ ha)
      have o6 := z4.but k₆ fun a ha c => hLu ((show a = L from c) ▸ List.mem_append_right _ ha)
      have hone : (fun y => if y = (Str.ofString "other") then some (Value.int (0 + (j : Int)) tk) else m' y) "one" = some (.int (i : Int) t') := (if_neg (by rw [ofString_inj]; decide)).trans z0
      have hoth : (fun y => if y = (Str.ofString "other") then some (Value.int (0 + (j : Int)) tk) else m' y) "other" = some (.int (j : Int) tk) := by simpa using if_pos rfl
      have hdr : (fun y => if y = (Str.ofString "other") then some (Value.int (0 + (j : Int)) tk) else m' y) "drawn" = some (.ref ad) := (if_neg (by rw [ofString_inj]; decide)).trans z2
      generalize hmm : (fun y => if y = (Str.ofString "other") then some (Value.int (0 + (j : Int)) tk) else m' y) = m6 at n₆ hone hoth hdr
      obtain ⟨hci, hzi⟩ := lead_cps (hil (ls.getD i []) (by rw [List.getD_eq_getElem?_getD, List.getElem?_eq_getElem (by omega)]; exact List.getElem_mem _))
      obtain ⟨hcj, hzj⟩ := lead_cps (hil (ls.getD j []) (by rw [List.getD_eq_getElem?_getD, List.getElem?_eq_getElem (by omega)]; exact List.getElem_mem _))
      have hsi := scan_len (ls.getD i [])
      have hsj := scan_len (ls.getD j [])
      have eT := hLes i j hi hj
      unfold lessL at eT
      have eE := hEq i j hi hj
      -- told = spaces[one].less(spaces[other])
      refine wpAny_execs_cons ?_
      refine asgL (x := "told") ?_
      refine MethodCall_ ?_
      refine Subscript_ ?_
      refine nmC C6.c9 ?_
      refine nmL n₆ hone ?_
      refine getSp C6.sp (by omega) (by omega) fun x Wx => ?_
      obtain ⟨dx, mx, Tx, Cx, vx, tb, tn, tt, w1, w2, a1, a2, a3, a4, a5, a6, a7, a8, w3, w4, w5⟩ := Ws.all Wx
      refine methN (f := 73) G C6.old w1 w2 a8 ?_
      refine cw1 G ?_
      refine args_cons ?_
      refine Subscript_ ?_
      refine nmC C6.c9 ?_
      refine nmL n₆ hoth ?_
      refine getSp C6.sp (by omega) (by omega) fun y Wy => ?_
      refine args_nil ⟨C6.old, ?_⟩
      refine less_spec G C6.old (r.le (by decide) (by decide)) Wx Wy (by omega) (by omega) (by omega) (by omega) (Int.natCast_nonneg _) (Int.natCast_nonneg _) fun h₇ tk₇ k₇ => ?_
      rw [eT]
      refine ⟨h₇, _, _, rfl, n₆.keeps k₇, fun h₈ n₈ k₈ => ?_⟩
      have kM8 : ExB (fun a => a = L ∨ a ∈ ua ++ oa) h h₈ := fun a o na e => k₈ a o (fun c => na (.inl c)) (k₇ _ _ (kM6 a o na e))
      have C8 := hK h₈ kM8
      have u8 := (u6.ex k₇).but k₈ fun a ha c => hLu ((show a = L from c) ▸ List.mem_append_left _ ha)
      have o8 := (o6.ex k₇).but k₈ fun a ha c => hLu ((show a = L from c) ▸ List.mem_append_right _ ha)
      have hone8 : (fun y => if y = (Str.ofString "told") then some (Value.bool (tld ls i j)) else m6 y) "one" = some (.int (i : Int) t') := (if_neg (by rw [ofString_inj]; decide)).trans hone
      have hoth8 : (fun y => if y = (Str.ofString "told") then some (Value.bool (tld ls i j)) else m6 y) "other" = some (.int (j : Int) tk) := (if_neg (by rw [ofString_inj]; decide)).trans hoth
      have hdr8 : (fun y => if y = (Str.ofString "told") then some (Value.bool (tld ls i j)) else m6 y) "drawn" = some (.ref ad) := (if_neg (by rw [ofString_inj]; decide)).trans hdr
      have htd8 : (fun y => if y = (Str.ofString "told") then some (Value.bool (tld ls i j)) else m6 y) "told" = some (Value.bool (tld ls i j)) := if_pos rfl
      generalize (fun y => if y = (Str.ofString "told") then some (Value.bool (tld ls i j)) else m6 y) = m8 at n₈ hone8 hoth8 hdr8 htd8
      -- if told is not all(...)
      refine wpAny_execs_cons ?_
      refine wpAny_If ?_
      refine wpAny_isTrue_Compare1 ?_
      refine nmL n₈ htd8 ?_
      refine Call_ ?_
      refine nmB (v := .builtin "all") G C8.old ?_
      refine PyProof.Rows.callWith_builtin1 ?_
      refine args_cons ?_
      refine pairE (b := b) ?_
      refine Call_ ?_
      refine nmB (v := .type "zip") G C8.old ?_
      refine PyProof.Rows.callWith_type1 ?_
      refine args_cons ?_
      refine Subscript_ ?_
      refine nmC C8.c8 ?_
      refine nmL n₈ hone8 ?_
      refine getCl C8.cl (by omega) (by omega) fun x1 ⟨v1, l1, i1⟩ => ?_
      refine args_cons ?_
      refine Subscript_ ?_
      refine nmC C8.c8 ?_
      refine nmL n₈ hoth8 ?_
      refine getCl C8.cl (by omega) (by omega) fun x2 ⟨v2, l2, i2⟩ => ?_
      refine args_nil ?_
      refine call_zip_2 (s := St b h₈ _) l1 l2 fun h₉ hz hTI hTO hi1 hi2 hsz k₉ => ?_
      have k₉' : Ex h₈ h₉ := k₉
      refine zipQ (n := 6) r.hh l1 l2 hz hTI hTO hi1 hi2 hsz k₉' i1 i2 (by simp [colsF]) (by simp [colsF]) (by decide) (fun h₁₀ t₁₀ k₁₀ l₁₀ h₁₁ k₁₁ => ?_) rfl rfl
      have kx11 : Ex h₈ h₁₁ := fun a o e => k₁₁ a o (Nat.ne_of_lt (Nat.lt_succ_of_lt (Heap.lt_size (k₉' _ _ e)))) (k₁₀ a o e)
      refine args_nil ?_
      refine allB r.hh (LsB l₁₀ k₁₁ (Nat.ne_of_lt (Nat.lt_succ_self _))) fun h₁₂ t₁₂ k₁₂ => ?_
      show wpAny _ _ (compareOp .IsNot (.bool (tld ls i j)) (.bool (tld ls i j))) _ _ _
      refine isBool ?_
      refine trB ?_
      rw [bne_self_eq_false]
      simp only [Bool.false_eq_true, if_false]
      refine wpAny_execs_nil ?_
      have kx12 := kx11.trans k₁₂
      have C12 := C8.ex kx12
      have n₁₂ := n₈.keeps kx12
      -- if spaces[one].equal(spaces[other]) is not (columns[one] == columns[other])
      refine wpAny_execs_cons ?_
      refine wpAny_If ?_
      refine wpAny_isTrue_Compare1 ?_
      refine MethodCall_ ?_
      refine Subscript_ ?_
      refine nmC C12.c9 ?_
      refine nmL n₁₂ hone8 ?_
      refine getSp C12.sp (by omega) (by omega) fun x Wx => ?_
      obtain ⟨dx, mx, Tx, Cx, vx, tb, tn, tt, w1, w2, a1, a2, a3, a4, a5, a6, a7, a8, w3, w4, w5⟩ := Ws.all Wx
      refine methN (f := 59) G C12.old w1 w2 a7 ?_
      refine cw1 G ?_
      refine args_cons ?_
      refine Subscript_ ?_
      refine nmC C12.c9 ?_
      refine nmL n₁₂ hoth8 ?_
      refine getSp C12.sp (by omega) (by omega) fun y Wy => ?_
      refine args_nil ⟨C12.old, ?_⟩
      refine eq_spec G C12.old (r.le (by decide) (by decide)) Wx Wy fun h₁₃ tk₁₃ k₁₃ => ?_
      rw [eE]
      have C13 := C12.ex k₁₃
      have n₁₃ := n₁₂.keeps k₁₃
      refine wpAny_Compare1 ?_
      refine Subscript_ ?_
      refine nmC C13.c8 ?_
      refine nmL n₁₃ hone8 ?_
      refine getCl C13.cl (by omega) (by omega) fun x1 ⟨v1, l1, i1⟩ => ?_
      refine Subscript_ ?_
      refine nmC C13.c8 ?_
      refine nmL n₁₃ hoth8 ?_
      refine getCl C13.cl (by omega) (by omega) fun x2 ⟨v2, l2, i2⟩ => ?_
      refine ke_eq_ints (s := St b h₁₃ _) l1 l2 i1 i2 (by have := r.un; omega) ?_
      refine isBool ?_
      refine trB ?_
      rw [bne_self_eq_false]
      simp only [Bool.false_eq_true, if_false]
      refine wpAny_execs_nil ?_
      -- if told
      have kx13 := kx12.trans k₁₃
      have u13 := u8.ex kx13
      have o13 := o8.ex kx13
      have kp13 : Kp (fun a => a = L ∨ a ∈ ua ++ oa) h₄.objs.size h₅ h₁₃ := (Kp.ofB k₆ fun a e => .inl (.inl e)).trans ((Kp.ofEx k₇ _ _).trans ((Kp.ofB k₈ fun a e => .inl (.inl e)).trans (Kp.ofEx kx13 _ _)))
      refine wpAny_execs_cons ?_
      refine wpAny_If ?_
      refine isTrue_plain ?_
      refine nmL n₁₃ htd8 ?_
      refine trB ?_
      cases hT : tld ls i j with
      | false =>
        simp only [Bool.false_eq_true, if_false]
        refine wpAny_execs_nil (wpAny_execs_nil ⟨h₁₃, _, rfl, kp13, m8, n₁₃, hdr8, ⟨_, hone8⟩, u13.congr fun o _ => ?_, o13.congr fun o _ => ?_⟩)
        · by_cases c : o < j
          · rw [if_pos c, if_pos (by omega)]
          · by_cases d : o = j
            · subst d; rw [if_neg c, if_pos (by omega), fullU_succ, hT]; simp
            · rw [if_neg c, if_neg (by omega)]
        · by_cases c : o < i
          · rw [if_pos c, if_pos c]
          · by_cases d : o = i
            · subst d; rw [if_neg c, if_pos rfl, if_neg c, if_pos rfl, fullO_succ, hT]; simp
            · rw [if_neg c, if_neg d, if_neg c, if_neg d]
      | true =>
        simp only [if_true]
        refine wpAny_execs_cons ?_
        refine wpAny_Expr ?_
        refine MethodCall_ ?_
        refine Subscript_ ?_
        refine nmC C13.c4 ?_
        refine nmL n₁₃ hoth8 ?_
        refine getAs C13.ud (by omega) (by omega) fun ru eru => ?_
        have rru := u13 j ru eru
        refine methA rru.choose_spec.1 ?_
        refine callWith_method1 ?_
        refine args_cons ?_
        refine nmL n₁₃ hone8 ?_
        refine args_nil ?_
        have mru : ru ∈ ua := List.mem_of_getElem? eru
        refine appRow rru ?_ fun h₁₄ r₁₄ k₁₄ => ?_
        · show List.length (if j < j then fullU ls (i + 1) j else fullU ls i j) ≤ 1000
          rw [if_neg (Nat.lt_irrefl _)]
          have := fullU_len ls i j
          omega
        have u14 := u13.at (n := i) hndu eru k₁₄ r₁₄
        have o14 := o13.but k₁₄ fun a ha c => hdis ru mru a ha c.symm
        have hruL : ¬ L = ru := fun c => hLu (c ▸ List.mem_append_left _ mru)
        have n₁₄ := n₁₃.at' fun o e => k₁₄ _ o hruL e
        have kM14 : ExB (fun a => a = L ∨ a ∈ ua ++ oa) h h₁₄ := fun a o na e => k₁₄ a o (fun c => na (.inr (c ▸ List.mem_append_left _ mru))) (kx13 _ _ (kM8 a o na e))
        have C14 := hK h₁₄ kM14
        refine wpAny_execs_cons ?_
        refine wpAny_Expr ?_
        refine MethodCall_ ?_
        refine Subscript_ ?_
        refine nmC C14.c5 ?_
        refine nmL n₁₄ hone8 ?_
        refine getAs C14.od (by omega) (by omega) fun ro ero => ?_
        have rro := o14 i ro ero
        refine methA rro.choose_spec.1 ?_
        refine callWith_method1 ?_
        refine args_cons ?_
        refine nmL n₁₄ hoth8 ?_
        refine args_nil ?_
        have mro : ro ∈ oa := List.mem_of_getElem? ero
        refine appRow rro ?_ fun h₁₅ r₁₅ k₁₅ => ?_
        · show List.length (if i < i then fullO ls 5 i else if i = i then fullO ls j i else []) ≤ 1000
          rw [if_neg (Nat.lt_irrefl _), if_pos rfl]
          have := fullO_len ls j i
          omega
        have o15 := o14.at (n := j) hndo ero k₁₅ r₁₅
        have u15 := u14.but k₁₅ fun a ha c => hdis a ha ro mro c
        have hroL : ¬ L = ro := fun c => hLu (c ▸ List.mem_append_right _ mro)
        refine wpAny_execs_nil (wpAny_execs_nil ⟨h₁₅, _, rfl, kp13.trans ((Kp.ofB k₁₄ fun a e => .inl (.inr (e ▸ List.mem_append_left _ mru))).trans (Kp.ofB k₁₅ fun a e => .inl (.inr (e ▸ List.mem_append_right _ mro)))), m8, n₁₄.at' fun o e => k₁₅ _ o hroL e, hdr8, ⟨_, hone8⟩, u15.congr fun o _ => ?_, o15.congr fun o _ => ?_⟩)
        · show (if o = j then (if o < j then fullU ls (i + 1) o else fullU ls i o) ++ [i] else (if o < j then fullU ls (i + 1) o else fullU ls i o)) = (if o < j + 1 then fullU ls (i + 1) o else fullU ls i o)
          by_cases c : o < j
          · rw [if_neg (by omega), if_pos c, if_pos (by omega)]
          · by_cases d : o = j
            · subst d; rw [if_pos rfl, if_neg c, if_pos (by omega), fullU_succ, hT]; simp
            · rw [if_neg d, if_neg c, if_neg (by omega)]
        · show (if o = i then (if o < i then fullO ls 5 o else if o = i then fullO ls j o else []) ++ [j] else (if o < i then fullO ls 5 o else if o = i then fullO ls j o else [])) = (if o < i then fullO ls 5 o else if o = i then fullO ls (j + 1) o else [])
          by_cases d : o = i
          · subst d; rw [if_pos rfl, if_neg (Nat.lt_irrefl _), if_pos rfl, if_neg (Nat.lt_irrefl _), if_pos rfl, fullO_succ, hT]; simp
          · rw [if_neg d, if_neg d, if_neg d]
    · refine wpAny_execs_nil ⟨h₅, _, rfl, (Kp.ofB k₃ fun a e => .inl (.inl e)).trans ((Kp.ofEx k₄ _ _).trans (Kp.ofB k₅ fun a e => .inl e)), m', z1, z2, z3.congr fun o ho => ?_, z4.congr fun o ho => ?_⟩
      · rw [if_pos (by omega)]
      · by_cases c : o < i
        · rw [if_pos c, if_pos (by omega)]
        · by_cases d : o = i
          · subst d; rw [if_neg c, if_pos rfl, if_pos (by omega)]
          · rw [if_neg c, if_neg d, if_neg (by omega)]
  · exact q h₂ _ m' (fun a o na e => k₂ a o na (k₁ a o e)) z1 z2 z3 (z4.congr fun o ho => if_pos (by omega))
end
end
end Mine

namespace Mine
section
open PySem PySem.W PyProof.Rows PySem.SeqAt
/-- the table of the law's own lambdas -/
def Tab (h : Heap) (ps : Array Value) : Prop := h.get? 101 = some (tabObj ps) ∧ TriplesOk ps.toList
def p1 : Pos := ⟨94, 34, 94, 61⟩
def p2 : Pos := ⟨99, 37, 99, 79⟩

section
variable {prog : Program} {w : World} {A : Around} {E : Value → Shared → Prop} {env : Env} {b : Shared} {h : Heap} {t : Nat} {mg mb : Str → Option Value} {g : Heap} {L : Addr} {m : Str → Option Value}

theorem CallKw {func : Expr} {args : List Expr} {kws : List Keyword} {pos : Pos} {Q : Value → Shared → Prop} {s : Shared}
    (q : wpAny (model prog w) A (eval func env) (fun f s₁ => wpAny (model prog w) A (callWith pos f [] (backTo pos (starEach args env)) (backToKw pos (keywordEach kws env))) Q E s₁) E s)
    (he : eval (.Call func args kws pos) env = (do callWith pos (← eval func env) [] (backTo pos (starEach args env)) (backToKw pos (keywordEach kws env))) := by rfl) :
    wpAny (model prog w) A (eval (.Call func args kws pos) env) Q E s := by
  rw [he]; exact wpAny_bind q

theorem builtinsAt (G : Gd w mg mb g) (hg : g.get? 101 = none) (k : Ex g h) (ht : ∃ ps, h.get? 101 = some (tabObj ps)) : h.BuiltinsAt mg 101 ∧ mainGlobals ≠ 101 ∧ h.Ns mainGlobals mg := by
  obtain ⟨p, loose, mean, T⟩ := G.T
  obtain ⟨og, es, ep, eg, dg, _⟩ := id T.g
  obtain ⟨bm, ob, b1, b2, b3, b4, b5, b6⟩ := T.bmain
  have away : ∀ {a : Addr} {o : Obj}, g.get? a = some o → a ≠ 101 := fun e c => Option.some_ne_none _ (e.symm.trans (c ▸ hg))
  have apart : bm ≠ mainGlobals := by
    intro c
    have same : ob = og := Option.some.inj (b3.symm.trans (c ▸ eg))
    rw [same, dg] at b6
    exact Data.noConfusion b6
  exact ⟨⟨bm, ob, b1, b2, apart, away b3, k _ _ b3, b4, b5, b6⟩, away eg, T.g.keeps k⟩

theorem mkLam {params : Arguments} {body : Expr} {scope : Scope} {pos : Pos} {clos : List (Str × Addr)} {ps : Array Value} {Q : Value → Shared → Prop} (G : Gd w mg mb g) (hg : g.get? 101 = none) (k : Ex g h) (C : CodeHd g 103 101) (T : Tab h ps) (hnf : codeAmong pos ps.toList = none)
    (q : ∀ f c' ctv h' tk, ExB (· = 101) h h' → h.get? f = none → h.get? c' = none → h'.get? f = some (kla_obj "<lambda>" (env.qual ++ "<lambda>") params body scope clos ((mg "__name__").getD .none) c' ctv) → h'.CodeRec (.ref c') (env.qual ++ "<lambda>") →
      Tab h' (ps ++ #[rawInt pos.line, rawInt pos.col, .ref c']) → Q (.ref f) (St b h' tk))
    (hd : defaultsOf params env = ([], []) := by rfl) (hcl : closureFor scope env = pure clos := by rfl) (hge : env.globals = mainGlobals := by rfl) (hcode : env.code = .ref 103 := by kernel_rfl) :
    wpAny (model prog w) A (eval (.Lambda params body scope pos) env) Q E (St b h t) := by
  obtain ⟨hb, hgP, hgs⟩ := builtinsAt G hg k ⟨_, T.1⟩
  refine kla_eval hd ?_
  refine kla_makeFunction (s := St b h t) hcl hge hgs hcode (C.keeps k) T.1 T.2 hnf hgP hb fun c' ctv h' tk hx hge hlt hrec htb => ?_
  have hsz : h.objs.size ≤ h'.objs.size := Nat.le_of_lt (Nat.lt_of_le_of_lt hge hlt)
  obtain ⟨c₂, oc, vs, t2, e2, hoc, hd2, hv⟩ := hrec
  refine q h'.objs.size c' ctv _ tk (fun a o na e => Heap.get?_push_of_some _ (hx a o na e)) (Heap.get?_none_of_le hsz) (Heap.get?_none_of_le hge) (Heap.get?_push_size _ rfl) ⟨c₂, oc, vs, t2, e2, Heap.get?_push_of_some _ hoc, hd2, hv⟩ ⟨Heap.get?_push_of_some _ htb, ?_⟩
  rw [Array.toList_append]
  exact TriplesOk_snoc _ _ _ _ T.2
theorem hitLam {params : Arguments} {body : Expr} {scope : Scope} {pos : Pos} {clos : List (Str × Addr)} {ps : Array Value} {c' : Addr} {Q : Value → Shared → Prop} (G : Gd w mg mb g) (hg : g.get? 101 = none) (k : Ex g h) (C : CodeHd g 103 101) (T : Tab h ps) (hf : codeAmong pos ps.toList = some (.ref c'))
    (q : ∀ f ctv h' tk, Ex h h' → h.get? f = none → h'.get? f = some (kla_obj "<lambda>" (env.qual ++ "<lambda>") params body scope clos ((mg "__name__").getD .none) c' ctv) → Q (.ref f) (St b h' tk))
    (hd : defaultsOf params env = ([], []) := by rfl) (hcl : closureFor scope env = pure clos := by rfl) (hge : env.globals = mainGlobals := by rfl) (hcode : env.code = .ref 103 := by kernel_rfl) :
    wpAny (model prog w) A (eval (.Lambda params body scope pos) env) Q E (St b h t) := by
  obtain ⟨hb, hgP, hgs⟩ := builtinsAt G hg k ⟨_, T.1⟩
  refine kla_eval hd ?_
  refine kla_makeFunctionHit (s := St b h t) hcl hge hgs hcode (C.keeps k) T.1 T.2 hf hb fun ctv h' tk hk hsz => ?_
  exact q h'.objs.size ctv _ tk (fun a o e => Heap.get?_push_of_some _ (hk a o e)) (Heap.get?_none_of_le hsz) (Heap.get?_push_size _ rfl)
end

section
variable {prog : Program} {w : World} {A : Around} {E : Value → Shared → Prop} {b : Shared} {h : Heap} {t : Nat} {mg mb : Str → Option Value} {g : Heap} {L : Addr} {m : Str → Option Value} {Q : Flow → Shared → Prop}
theorem st8 {c6 : Option Value} (hc : h.IsCell (L + 6) c6) (q : ∀ h' t' fl, ExB (· = L + 6) h h' → h'.IsCell (L + 6) (some (.ref fl)) → BoolsL h' fl (List.replicate 5 false) → h.get? fl = none → Q .next (St b h' t')) :
    wpAny (model prog w) A (exec (stm w 8) (LE w L)) Q E (St b h t) := by
  refine asgC (x := "flags") (c := L + 6) ?_
  refine wpAny_BinOp ?_
  refine List_ ?_
  refine args_cons (wpAny_Constant_bool ?_)
  refine args_nil ?_
  refine nList (Nat.le_of_ble_eq_true rfl) fun h₁ k₁ l₁ => ?_
  refine cInt ?_
  refine mulL l₁ (by decide) (by decide) (by decide) fun h₂ k₂ l₂ => ?_
  refine ⟨h₂, _, _, rfl, CellX hc (k₁.trans k₂), fun h₃ c₃ k₃ => ?_⟩
  have k12 := k₁.trans k₂
  have hfl : h.get? h₁.objs.size = none := by
    cases e : h.get? h₁.objs.size with
    | none => rfl
    | some o => exact absurd (Heap.lt_size (k₁ _ _ e)) (Nat.lt_irrefl _)
  refine q h₃ _ h₁.objs.size (fun a o na e => k₃ a o na (k12 a o e)) c₃ (LsB l₂ k₃ fun c => ?_) hfl
  obtain ⟨o, e, _⟩ := hc
  rw [c, e] at hfl; cases hfl

def bitK (d : Int) (k : Nat) : Bool := Builtin.bitAnd (d.fdiv (2 ^ k)) 1 == 1
def build (d : Int) (un : List (List Nat)) (fl : List Bool) (k : Nat) : List Bool := fl.set k (bitK d k && ((un.getD k []).map fun j => fl.getD j false).all id)
theorem build_len {d : Int} {un : List (List Nat)} {fl : List Bool} {k : Nat} : (build d un fl k).length = fl.length := by unfold build; simp
def buildAll (d : Int) (un : List (List Nat)) (ord : List Nat) : List Bool := ord.foldl (build d un) (List.replicate 5 false)
theorem buildAll_snoc {d : Int} {un : List (List Nat)} {ord : List Nat} {k : Nat} : buildAll d un (ord ++ [k]) = build d un (buildAll d un ord) k := by unfold buildAll; rw [List.foldl_append]; rfl
theorem buildAll_len {d : Int} {un : List (List Nat)} {ord : List Nat} : (buildAll d un ord).length = 5 := by
  unfold buildAll
  suffices ∀ fl : List Bool, (ord.foldl (build d un) fl).length = fl.length by rw [this]; rfl
  induction ord with
  | nil => intro fl; rfl
  | cons k r ih => intro fl; rw [List.foldl_cons, ih, build_len]
def rowsU (ls : List (List Nat)) : List (List Nat) := (List.range 5).map (fullU ls 5)
def rowsO (ls : List (List Nat)) : List (List Nat) := (List.range 5).map (fullO ls 5)
theorem rowsL {h : Heap} {u : Addr} {as : List Addr} {f : Nat → List Nat} (l : h.IsList u (as.map Value.ref).toArray) (hz : as.length = 5) (x : RowsF h as f) : RowsL h u ((List.range 5).map f) := by
  refine ⟨as, l, by simp [hz], fun i a e => ?_⟩
  have hi : i < 5 := by rw [← hz]; exact (List.getElem?_eq_some_iff.mp e).1
  obtain ⟨vs, p, ii⟩ := x i a e
  have : ((List.range 5).map f).getD i [] = f i := by simp [List.getD_eq_getElem?_getD, hi]
  rw [this]
  exact ⟨vs, p.is, ii⟩
theorem rowU_lt {ls : List (List Nat)} {k : Nat} : ∀ j ∈ (rowsU ls).getD k [], j < 5 := by
  intro j hj
  unfold rowsU at hj
  rw [List.getD_eq_getElem?_getD, List.getElem?_map] at hj
  cases e : (List.range 5)[k]? with
  | none => rw [e] at hj; cases hj
  | some i =>
    rw [e] at hj
    have : j ∈ fullU ls 5 i := hj
    exact List.mem_range.mp (List.mem_filter.mp this).1
theorem rowO_lt {ls : List (List Nat)} {k : Nat} : ∀ j ∈ (rowsO ls).getD k [], j < 5 := by
  intro j hj
  unfold rowsO at hj
  rw [List.getD_eq_getElem?_getD, List.getElem?_map] at hj
  cases e : (List.range 5)[k]? with
  | none => rw [e] at hj; cases hj
  | some i =>
    rw [e] at hj
    have : j ∈ fullO ls 5 i := hj
    exact List.mem_range.mp (List.mem_filter.mp this).1
theorem rowU_len {ls : List (List Nat)} {k : Nat} : ((rowsU ls).getD k []).length ≤ 5 := by
  unfold rowsU
  rw [List.getD_eq_getElem?_getD, List.getElem?_map]
  cases e : (List.range 5)[k]? with
  | none => exact Nat.zero_le _
  | some i => exact fullU_len ls 5 i
theorem rowO_len {ls : List (List Nat)} {k : Nat} : ((rowsO ls).getD k []).length ≤ 5 := by
  unfold rowsO
  rw [List.getD_eq_getElem?_getD, List.getElem?_map]
  cases e : (List.range 5)[k]? with
  | none => exact Nat.zero_le _
  | some i => exact fullO_len ls 5 i

/-- what stands from the ninth statement on -/
structure Cst2 (g h : Heap) (L sp cl ud od : Addr) (ls : List (List Nat)) : Prop where
  old : Ex g h
  c9 : h.IsCell (L + 9) (some (.ref sp))
  c8 : h.IsCell (L + 8) (some (.ref cl))
  c4 : h.IsCell (L + 4) (some (.ref ud))
  c5 : h.IsCell (L + 5) (some (.ref od))
  sp : SpL h sp ls
  cl : ColL h cl ls
  ud : RowsL h ud (rowsU ls)
  od : RowsL h od (rowsO ls)
theorem Cst2.ex {g h h' : Heap} {L sp cl ud od : Addr} {ls : List (List Nat)} (x : Cst2 g h L sp cl ud od ls) (k : Ex h h') : Cst2 g h' L sp cl ud od ls :=
  ⟨x.old.trans k, CellX x.c9 k, CellX x.c8 k, CellX x.c4 k, CellX x.c5 k, x.sp.ex k, x.cl.ex k, x.ud.ex k, x.od.ex k⟩
end
end
end Mine

namespace Mine
section
open PySem PySem.W PyProof.Rows PySem.SeqAt
section
variable {prog : Program} {w : World} {A : Around} {E : Value → Shared → Prop} {b : Shared} {h : Heap} {t : Nat} {mg mb : Str → Option Value} {g : Heap} {L : Addr} {m : Str → Option Value} {Q : Flow → Shared → Prop}
theorem rec_but {h h' : Heap} {L c : Addr} {q : Str} {m : Str → Option Value} (x : h.CodeRec (.ref c) q) (hn : h.Ns L m) (k : ExB (· = L) h h') : h'.CodeRec (.ref c) q := by
  obtain ⟨c₂, oc, vs, t, e, ho, hd, hq⟩ := x
  cases e
  refine ⟨c, oc, vs, t, rfl, k _ _ (fun e => ?_) ho, hd, hq⟩
  obtain ⟨o, es, ep, e2, hd2, _⟩ := hn
  rw [e, e2] at ho; cases ho
  rw [hd] at hd2; cases hd2
def key0 (ls : List (List Nat)) : List Int := (List.range 5).map fun i => (colsF 6 (ls.getD i [])).getD 0 0

theorem st9 (G : Gd w mg mb g) (hg : g.get? 101 = none) (hgL : g.objs.size ≤ L) (C : CodeHd g 103 101) (r : Room A 30 70) {ad sp cl ud od fl : Addr} {ls : List (List Nat)} {vs : List Value} {ds : List Int} (hn : h.Ns L m) (hmd : m "drawn" = some (.ref ad))
    (hls : ls.length = 5) (hi : IntsAre vs ds) (hdl : ds.length = 6) (T : Tab h #[]) (hL1 : L ≠ 101) (hf1 : fl ≠ 101) (hfL : fl ≠ L)
    (hF : BoolsL h fl (List.replicate 5 false))
    (hK : ∀ h', ExB (fun a => a = L ∨ a = fl ∨ a = 101) h h' → Cst2 g h' L sp cl ud od ls ∧ h'.IsList ad vs.toArray ∧ h'.IsCell (L + 6) (some (.ref fl)))
    (q : ∀ h' t' m' ns ps, ExB (fun a => a = L ∨ a = fl ∨ a = 101) h h' → h'.Ns L m' → BoolsL h' fl (buildAll (ds.getD 5 0) (rowsU ls) ns) → ns.Perm (List.range 5) → ns.Pairwise (fun x y => (key0 ls).getD x 0 ≤ (key0 ls).getD y 0) → Tab h' ps → codeAmong p2 ps.toList = none → Q .next (St b h' t')) :
    wpAny (model prog w) A (exec (stm w 9) (LE w L)) Q E (St b h t) := by
  have C0 := (hK h (ExB.refl _ _)).1
  have hfl0 : ∃ o, h.get? fl = some o := by obtain ⟨o, e, _⟩ := hF; exact ⟨o, e⟩
  refine wpAny_For ?_
  refine CallKw ?_
  refine nmB (v := .builtin "sorted") G C0.old ?_
  refine callWith_kw ?_
  refine args_cons ?_
  refine Call_ ?_
  refine nmB (v := .type "range") G C0.old ?_
  refine PyProof.Rows.callWith_type1 ?_
  refine args_cons (cInt ?_)
  refine args_nil ?_
  refine rng1 fun rr h₁ t₁ u1 u2 u3 k₁ r₁ => ?_
  refine args_nil ?_
  refine kws_cons ?_
  have T₁ : Tab h₁ #[] := ⟨k₁ _ _ T.1, T.2⟩
  have hr1 : rr ≠ 101 := fun c => by rw [c] at r₁; have := T₁.1; rw [r₁] at this; cases this
  refine mkLam G hg (C0.old.trans k₁) C T₁ rfl fun f c' ctv h₂ tk₂ k₂ hf0 _ hf hcr T₂ => ?_
  refine kws_nil ?_
  show wpAny _ _ (call (.builtin "sorted") [.ref rr] [(Str.ofString "key", .ref f)]) _ _ _
  have n₂ : h₂.Ns L m := (hn.keeps k₁).at' fun o e => k₂ _ o hL1 e
  have kM2 : ExB (fun a => a = L ∨ a = fl ∨ a = 101) h h₂ := fun a o na e => k₂ a o (fun c => na (.inr (.inr c))) (k₁ _ _ e)
  have hfL' : f ≠ L := fun c => by obtain ⟨o, _, _, e, _⟩ := hn.keeps k₁; rw [← c, hf0] at e; cases e
  have r₂ : IsRange h₂ rr 0 ((5 : Nat) : Int) 1 u1 u2 u3 := k₂ _ _ hr1 r₁
  refine sortK (L := L) (m := m) (n := 5) (kz := key0 ls) r.hh r₂ (by decide) (by simp [key0]) n₂ (fun i u h₃ tk₃ hi5 k₃ n₃ => ?_) fun D h₃ tk₃ ns k₃ n₃ hD0 hDL iD hp hs => ?_
  · have kM3 : ExB (fun a => a = L ∨ a = fl ∨ a = 101) h h₃ := fun a o na e => k₃ a o (fun c => na (.inl c)) (kM2 a o na e)
    have C3 := (hK h₃ kM3).1
    refine call_lam (binds := [("one", .int (i : Int) u)]) G C3.old (k₃ _ _ hfL' hf) (rec_but hcr n₂ k₃) (by have := r.dp; have e : A.in1.in1.depth = A.depth := rfl; rw [e]; omega) rfl (locs rfl) rfl rfl rfl (by decide) fun h₀ n₀ k₀ => ?_
    have C4 := C3.ex k₀
    refine Subscript_ ?_
    refine Subscript_ ?_
    refine nmF (c := L + 8) C4.c8 ?_
    refine nmL n₀ rfl ?_
    refine getCl C4.cl (by omega) (by omega) fun x ⟨v1, l1, i1⟩ => ?_
    refine cInt ?_
    have hv0 : ∃ tv, v1[0]? = some (.int ((colsF 6 (ls.getD i [])).getD 0 0) tv) := by
      have hl : v1.length = 6 := by rw [i1.length]; simp [colsF]
      obtain ⟨tv, e⟩ := i1.int_at 0 v1[0] (List.getElem?_eq_getElem (by omega))
      exact ⟨tv, by rw [← e]; exact List.getElem?_eq_getElem (by omega)⟩
    obtain ⟨tv, hv0⟩ := hv0
    refine itemL l1 (by decide) (by decide) (x := .int ((colsF 6 (ls.getD i [])).getD 0 0) tv) (by simpa using hv0) ?_
    refine ⟨h₀, _, tv, ?_, rfl, k₀⟩
    congr 1
    simp [key0, List.getD_eq_getElem?_getD, hi5]
  · obtain ⟨ws, lD, iD⟩ := iD
    have hwl : ws.length = 5 := by rw [iD.length, List.length_map, hp.length_eq]; rfl
    have hnl : ns.length = 5 := by rw [hp.length_eq]; rfl
    have kM3 : ExB (fun a => a = L ∨ a = fl ∨ a = 101) h h₃ := fun a o na e => k₃ a o (fun c => na (.inl c)) (kM2 a o na e)
    have hDf : D ≠ fl := fun c => by obtain ⟨o, e⟩ := hfl0; have := k₂ _ _ hf1 (k₁ _ _ e); rw [← c, hD0] at this; cases this
    have F₃ : BoolsL h₃ fl (List.replicate 5 false) := LsB (LsB (hF.ex k₁) k₂ hf1) k₃ hfL
    have T₃ : Tab h₃ (#[] ++ #[rawInt 94, rawInt 34, .ref c']) := ⟨k₃ _ _ (Ne.symm hL1) T₂.1, T₂.2⟩
    refine forList r.hh lD (fun a => a = L ∨ a = fl) (fun i h => ∃ m', h.Ns L m' ∧ m' "drawn" = some (.ref ad) ∧ BoolsL h fl (buildAll (ds.getD 5 0) (rowsU ls) (ns.take i)))
      (fun a c => ?_) (fun c => c.elim hDL hDf) (fun h' x => ⟨m, n₃.keeps x, hmd, F₃.ex x⟩) (fun i h₀ h₄ ⟨m', z1, z2, z3⟩ x => ?_) (fun i v h₄ t₄ E' hv ⟨m', z1, z2, z3⟩ k₄ _ => ?_) fun h₄ t₄ ⟨m', z1, z2, z3⟩ k₄ => ?_
    · rcases c with c | c
      · rw [c]; exact n₃.lt
      · rw [c]; obtain ⟨o, e, _⟩ := F₃; exact Heap.lt_size e
    · refine ⟨m', z1.at' fun o e => x _ o (Nat.ne_of_lt n₃.lt) e, z2, LsB z3 x (Nat.ne_of_lt ?_)⟩
      obtain ⟨o, e, _⟩ := F₃; exact Heap.lt_size e
    · have hil : i < 5 := by have := (Array.getElem?_eq_some_iff.mp hv).1; simp at this; omega
      obtain ⟨tv, rfl⟩ := iD.int_at i v (by simpa using hv)
      have e : ((ns.map fun n : Nat => (n : Int)).getD i 0) = ((ns.getD i 0 : Nat) : Int) := by simp [hnl, hil]
      rw [e]
      have hk5 : ns.getD i 0 < 5 := by
        have : ns.getD i 0 ∈ ns := by rw [List.getD_eq_getElem?_getD, List.getElem?_eq_getElem (by omega)]; exact List.getElem_mem _
        exact List.mem_range.mp (hp.mem_iff.mp this)
      have htk : ns.take (i + 1) = ns.take i ++ [ns.getD i 0] := by rw [List.take_add_one]; simp [hnl, hil]
      rw [htk, buildAll_snoc]
      generalize ns.getD i 0 = kk at hk5 ⊢
      generalize hcur : buildAll (ds.getD 5 0) (rowsU ls) (ns.take i) = cur at z3 ⊢
      have hcl : cur.length = 5 := by rw [← hcur, buildAll_len]
      refine asgN z1 fun h₅ n₅ k₅ => ?_
      have kM5 : ExB (fun a => a = L ∨ a = fl ∨ a = 101) h h₅ := fun a o na e => k₅ a o (fun c => na (.inl c)) (k₄ a o (fun c => c.elim (fun c => na (.inl c)) fun c => na (.inr (.inl c))) (kM3 a o na e))
      obtain ⟨C5, A5, f5⟩ := hK h₅ kM5
      have F₅ : BoolsL h₅ fl cur := LsB z3 k₅ hfL
      have hdr : (fun y => if y = (Str.ofString "k") then some (Value.int (kk : Int) tv) else m' y) "drawn" = some (.ref ad) := (if_neg (by rw [ofString_inj]; decide)).trans z2
      refine wpAny_execs_cons ?_
      refine wpAny_Assign_Subscript ?_
      refine wpAny_mono (Q := fun v s => v = .bool (bitK (ds.getD 5 0) kk && (((rowsU ls).getD kk []).map fun j => cur.getD j false).all id) ∧ ∃ h' t', s = St b h' t' ∧ Ex h₅ h') ?_ (fun v s hv => ?_) fun _ _ x => x
      · refine BoolOp_and ?_
        refine wpAny_Compare1 ?_
        refine wpAny_BinOp ?_
        refine wpAny_BinOp ?_
        refine Subscript_ ?_
        refine nmL n₅ hdr ?_
        refine cInt ?_
        obtain ⟨td, hd5⟩ : ∃ td, vs[5]? = some (.int (ds.getD 5 0) td) := by
          have hl : vs.length = 6 := by rw [hi.length, hdl]
          obtain ⟨td, e⟩ := hi.int_at 5 vs[5] (List.getElem?_eq_getElem (by omega))
          exact ⟨td, by rw [← e]; exact List.getElem?_eq_getElem (by omega)⟩
        refine itemL A5 (by decide) (by decide) (x := .int (ds.getD 5 0) td) (by simpa using hd5) ?_
        refine nmL n₅ (if_pos rfl) ?_
        refine rshift_int (s := St b h₅ _) (Int.natCast_nonneg _) ?_
        refine cInt ?_
        refine and_int (s := St b h₅ _) ?_
        refine cInt ?_
        refine eqI ?_
        rw [show (Builtin.bitAnd ((ds.getD 5 0).fdiv (2 ^ (kk : Int).toNat)) 1 == 1) = bitK (ds.getD 5 0) kk from by rw [Int.toNat_natCast]; rfl]
        refine trB ?_
        cases hb : bitK (ds.getD 5 0) kk with
        | false => exact ⟨rfl, h₅, _, rfl, Ex.refl _⟩
        | true =>
          rw [if_pos rfl]
          refine BoolOp_one ?_
          refine Call_ ?_
          refine nmB (v := .builtin "all") G C5.old ?_
          refine PyProof.Rows.callWith_builtin1 ?_
          refine args_cons ?_
          refine flagsComp (b := b) r.hh ?_
          refine Subscript_ ?_
          refine nmC C5.c4 ?_
          refine nmL n₅ (if_pos rfl) ?_
          refine itemR C5.ud (by simp [rowsU]; omega) (by simp [rowsU]) fun a ia => ?_
          refine ⟨a, h₅, _, _, cur, _, fl, rfl, rfl, ia, by have := rowU_len (ls := ls) (k := kk); omega, fun n hn => by have := rowU_lt n hn; omega, by omega, f5, rfl, F₅, fun D' h₆ t₆ k₆ b₆ => ?_⟩
          refine args_nil ?_
          refine allB r.hh b₆ fun h₇ t₇ k₇ => ?_
          exact ⟨by rw [Bool.true_and], h₇, _, rfl, k₆.trans k₇⟩
      · obtain ⟨rfl, h₆, t₆, rfl, k₆⟩ := hv
        refine nmC (CellX f5 k₆) ?_
        refine nmL (n₅.keeps k₆) (if_pos rfl) ?_
        refine setL (F₅.ex k₆) (Int.natCast_nonneg _) (by rw [List.size_toArray, List.length_map]; omega) (by rw [List.size_toArray, List.length_map]; omega) fun h₇ l₇ k₇ => ?_
        refine wpAny_execs_nil ⟨h₇, _, rfl, (Kp.ofB k₅ fun a e => .inl (.inl e)).trans ((Kp.ofEx k₆ _ _).trans (Kp.ofB k₇ fun a e => .inl (.inr e))), _, (n₅.keeps k₆).at' fun o e => k₇ _ o (Ne.symm hfL) e, hdr, ?_⟩
        unfold build BoolsL
        rw [Int.toNat_natCast, List.setIfInBounds_toArray] at l₇
        rw [List.map_set]
        exact l₇
    · have e5 : ws.toArray.size = 5 := by rw [List.size_toArray, hwl]
      rw [show ns.take ws.toArray.size = ns from by rw [e5]; exact List.take_of_length_le (by omega)] at z3
      refine q h₄ _ m' ns (#[] ++ #[rawInt 94, rawInt 34, .ref c']) (fun a o na e => k₄ a o (fun c => c.elim (fun c => na (.inl c)) fun c => na (.inr (.inl c))) (kM3 a o na e)) z1 z3 hp hs ⟨k₄ _ _ (fun c => c.elim (Ne.symm hL1) (Ne.symm hf1)) T₃.1, T₃.2⟩ rfl
end
end
end Mine

namespace Mine
section
open PySem PySem.W PyProof.Rows PySem.SeqAt
def outP (un : List (List Nat)) (fl : List Bool) (k : Nat) : Bool := !fl.getD k false && ((un.getD k []).map fun j => fl.getD j false).all id
def outs (un : List (List Nat)) (fl : List Bool) (n : Nat) : List Nat := (List.range n).filter (outP un fl)
theorem outs_succ (un : List (List Nat)) (fl : List Bool) (n : Nat) : outs un fl (n + 1) = outs un fl n ++ (if outP un fl n then [n] else []) := by
  unfold outs; rw [List.range_succ, List.filter_append]
  cases h : outP un fl n <;> simp [h]
def dueP (ov : List (List Nat)) (os : List Nat) (k : Nat) : Bool := os.any (· == k) || ((ov.getD k []).map fun j => os.any (· == j)).any id
def dues (ov : List (List Nat)) (os : List Nat) : List Bool := (List.range 5).map (dueP ov os)
theorem anyInt (os : List Nat) (k : Nat) : (os.map fun n : Nat => (n : Int)).any (· == (k : Int)) = os.any (· == k) := by
  induction os with
  | nil => rfl
  | cons o r ih =>
    rw [List.map_cons, List.any_cons, List.any_cons, ih]
    congr 1
    by_cases c : o = k
    · subst c; simp
    · have : (o : Int) ≠ (k : Int) := by omega
      rw [beq_eq_false_iff_ne.mpr c, beq_eq_false_iff_ne.mpr this]

section
variable {prog : Program} {w : World} {A : Around} {E : Value → Shared → Prop} {b : Shared} {h : Heap} {t : Nat} {mg mb : Str → Option Value} {g : Heap} {L : Addr} {m : Str → Option Value} {Q : Flow → Shared → Prop}
theorem st10 (G : Gd w mg mb g) (r : Room A 30 70) {sp cl ud od fl : Addr} {ls : List (List Nat)} {bs : List Bool} {c7 : Option Value} (C : Cst2 g h L sp cl ud od ls) (f6 : h.IsCell (L + 6) (some (.ref fl))) (F : BoolsL h fl bs) (hb : bs.length = 5) (h7 : h.IsCell (L + 7) c7)
    (q : ∀ h' t' ol, ExB (· = L + 7) h h' → h'.IsCell (L + 7) (some (.ref ol)) → IntsL h' ol (outs (rowsU ls) bs 5) → h.get? ol = none → Q .next (St b h' t')) :
    wpAny (model prog w) A (exec (stm w 10) (LE w L)) Q E (St b h t) := by
  refine asgC (x := "outside") (c := L + 7) ?_
  refine compE (b := b) ?_
  refine Call_ ?_
  refine nmB (v := .type "range") G C.old ?_
  refine PyProof.Rows.callWith_type1 ?_
  refine args_cons (cInt ?_)
  refine args_nil ?_
  refine rng1 fun rr h₁ t₁ u1 u2 u3 k₁ r₁ => ?_
  have C₁ := C.ex k₁
  have f₁ := CellX f6 k₁
  have F₁ := F.ex k₁
  refine CompQ.range r.hh r₁ (by decide) (by decide) (by decide) (by decide) (n := 5) (by decide) (by decide) (fun _ => False)
    (fun i _ ys => IntsAre ys ((outs (rowsU ls) bs i).map fun n : Nat => (n : Int))) (fun _ x => x.elim) (fun _ _ => .nil) (fun _ _ _ _ x _ => x)
    (fun i tk h₂ t₂ ys m₂ E'' hi e1 k₂ n₂ _ => ?_) (fun h₂ t₂ ys e1 _ k₂ l₂ h₃ k₃ => ?_)
  · have kx : Ex h₁ h₂ := k₂.fresh fun _ x => x.elim
    have hC : ∀ {a : Addr} {o : Obj}, h₁.get? a = some o → a ≠ h₁.objs.size + 2 := fun e => Nat.ne_of_lt (Nat.lt_of_lt_of_le (Heap.lt_size e) (Nat.le_add_right _ _))
    refine asgN n₂ fun h₃ n₃ k₃ => ?_
    have kx3 : Ex h₁ h₃ := fun a o e => k₃ a o (hC e) (kx a o e)
    have C₃ := C₁.ex kx3
    have f₃ := CellX f₁ kx3
    have F₃ := F₁.ex kx3
    have kp3 : Kp (fun _ => False) (h₁.objs.size + 1) h₂ h₃ := Kp.ofB k₃ fun a e => .inr (by rw [e]; exact Nat.lt_succ_self _)
    rw [show (0 : Int) + (i : Int) = (i : Int) from Int.zero_add _] at n₃
    refine wpAny_tests_one ?_
    refine wpAny_mono (Q := fun c s => c = outP (rowsU ls) bs i ∧ ∃ h' t', s = St b h' t' ∧ Ex h₃ h') ?_ (fun c s hc => ?_) fun _ _ x => x
    · refine isTrue_and ?_
      refine isTrue_not ?_
      refine isTrue_plain ?_
      refine Subscript_ ?_
      refine nmC f₃ ?_
      refine nmL n₃ (if_pos rfl) ?_
      refine itemB F₃ (by omega) (by omega) ?_
      refine trB ?_
      cases hf : bs.getD i false with
      | true => exact ⟨by unfold outP; rw [hf]; rfl, h₃, _, rfl, Ex.refl _⟩
      | false =>
        rw [Bool.not_false, if_pos rfl]
        refine isTrue_and ?_
        refine isTrue_plain ?_
        refine Call_ ?_
        refine nmB (v := .builtin "all") G C₃.old ?_
        refine PyProof.Rows.callWith_builtin1 ?_
        refine args_cons ?_
        refine flagsComp (b := b) r.hh ?_
        refine Subscript_ ?_
        refine nmC C₃.c4 ?_
        refine nmL n₃ (if_pos rfl) ?_
        refine itemR C₃.ud (by simp [rowsU]; omega) (by simp [rowsU]) fun a ia => ?_
        refine ⟨a, h₃, _, _, bs, _, fl, rfl, rfl, ia, by have := rowU_len (ls := ls) (k := i); omega, fun n hn => by have := rowU_lt n hn; omega, by omega, f₃, rfl, F₃, fun D' h₆ t₆ k₆ b₆ => ?_⟩
        refine args_nil ?_
        refine allB r.hh b₆ fun h₇ t₇ k₇ => ?_
        refine trB ?_
        cases ha : (((rowsU ls).getD i []).map fun j => bs.getD j false).all id with
        | false => exact ⟨by unfold outP; rw [hf, ha]; rfl, h₇, _, rfl, k₆.trans k₇⟩
        | true => exact isTrue_and_nil ⟨by unfold outP; rw [hf, ha]; rfl, h₇, _, rfl, k₆.trans k₇⟩
    · obtain ⟨rfl, h₄, t₄, rfl, k₄⟩ := hc
      cases ho : outP (rowsU ls) bs i with
      | true =>
        simp only [if_true]
        refine nmL (n₃.keeps k₄) (if_pos rfl) ?_
        refine ⟨h₄, _, _, rfl, kp3.trans (Kp.ofEx k₄ _ _), n₃.keeps k₄, ?_⟩
        rw [outs_succ, ho, if_pos rfl, List.map_append]
        exact ints_snoc e1 _ _
      | false =>
        simp only [Bool.false_eq_true, if_false]
        refine ⟨h₄, _, _, rfl, kp3.trans (Kp.ofEx k₄ _ _), n₃.keeps k₄, ?_⟩
        rw [outs_succ, ho, if_neg Bool.false_ne_true, List.append_nil]
        exact e1
  · have kx : Ex h₁ h₂ := k₂.fresh fun _ x => x.elim
    have hC : ∀ {a : Addr} {o : Obj}, h₁.get? a = some o → a ≠ h₁.objs.size + 2 := fun e => Nat.ne_of_lt (Nat.lt_of_lt_of_le (Heap.lt_size e) (Nat.le_add_right _ _))
    have kx3 : Ex h h₃ := fun a o e => k₃ a o (hC (k₁ _ _ e)) (kx a o (k₁ _ _ e))
    refine ⟨h₃, _, _, rfl, CellX h7 kx3, fun h₄ c₄ k₄ => ?_⟩
    have h7l : L + 7 < h₁.objs.size := by obtain ⟨o, e, _⟩ := CellX h7 k₁; exact Heap.lt_size e
    have hnone : h.get? (h₁.objs.size + 1) = none := by
      cases e : h.get? (h₁.objs.size + 1) with
      | none => rfl
      | some o => exact absurd (Heap.lt_size (k₁ _ _ e)) (Nat.not_lt.mpr (Nat.le_succ _))
    refine q h₄ _ (h₁.objs.size + 1) (fun a o na e => k₄ a o na (kx3 a o e)) c₄ ⟨ys, ?_, e1⟩ hnone
    exact LsB (LsB l₂ k₃ (Nat.ne_of_lt (Nat.lt_succ_self _))) k₄ (Nat.ne_of_gt (Nat.lt_succ_of_lt h7l))

theorem st11 (G : Gd w mg mb g) (r : Room A 30 70) {sp cl ud od ol : Addr} {ls : List (List Nat)} {os : List Nat} (hn : h.Ns L m) (C : Cst2 g h L sp cl ud od ls) (f7 : h.IsCell (L + 7) (some (.ref ol))) (F : IntsL h ol os)
    (q : ∀ h' t' du, ExB (· = L) h h' → h'.Ns L (fun y => if y = "due" then some (.ref du) else m y) → BoolsL h' du (dues (rowsO ls) os) → h.get? du = none → Q .next (St b h' t')) :
    wpAny (model prog w) A (exec (stm w 11) (LE w L)) Q E (St b h t) := by
  refine compA (b := b) (x := "due") ?_
  refine Call_ ?_
  refine nmB (v := .type "range") G C.old ?_
  refine PyProof.Rows.callWith_type1 ?_
  refine args_cons (cInt ?_)
  refine args_nil ?_
  refine rng1 fun rr h₁ t₁ u1 u2 u3 k₁ r₁ => ?_
  have C₁ := C.ex k₁
  have f₁ := CellX f7 k₁
  have F₁ := F.ex k₁
  refine CompQ.range r.hh r₁ (by decide) (by decide) (by decide) (by decide) (n := 5) (by decide) (by decide) (fun _ => False)
    (fun i _ ys => ys = (List.range i).map fun k => Value.bool (dueP (rowsO ls) os k)) (fun _ x => x.elim) (fun _ _ => rfl) (fun _ _ _ _ x _ => x)
    (fun i tk h₂ t₂ ys m₂ E'' hi e1 k₂ n₂ _ => ?_) (fun h₂ t₂ ys e1 _ k₂ l₂ => ?_)
  · have kx : Ex h₁ h₂ := k₂.fresh fun _ x => x.elim
    have hC : ∀ {a : Addr} {o : Obj}, h₁.get? a = some o → a ≠ h₁.objs.size + 2 := fun e => Nat.ne_of_lt (Nat.lt_of_lt_of_le (Heap.lt_size e) (Nat.le_add_right _ _))
    refine asgN n₂ fun h₃ n₃ k₃ => wpAny_tests_nil ?_
    simp only [if_true]
    have kx3 : Ex h₁ h₃ := fun a o e => k₃ a o (hC e) (kx a o e)
    have C₃ := C₁.ex kx3
    have f₃ := CellX f₁ kx3
    have F₃ := F₁.ex kx3
    have kp3 : Kp (fun _ => False) (h₁.objs.size + 1) h₂ h₃ := Kp.ofB k₃ fun a e => .inr (by rw [e]; exact Nat.lt_succ_self _)
    rw [show (0 : Int) + (i : Int) = (i : Int) from Int.zero_add _] at n₃
    obtain ⟨vo, lo, io⟩ := F₃
    refine wpAny_mono (Q := fun v s => v = .bool (dueP (rowsO ls) os i) ∧ ∃ h' t', s = St b h' t' ∧ Ex h₃ h') ?_ (fun v s hv => ?_) fun _ _ x => x
    · refine BoolOp_or ?_
      refine wpAny_Compare1 ?_
      refine nmL n₃ (if_pos rfl) ?_
      refine nmC f₃ ?_
      refine in_list_ints (s := St b h₃ _) lo io ?_
      rw [anyInt]
      refine trB ?_
      cases hf : os.any (· == i) with
      | true => exact ⟨by unfold dueP; rw [hf]; rfl, h₃, _, rfl, Ex.refl _⟩
      | false =>
        rw [if_neg Bool.false_ne_true]
        refine BoolOp_one ?_
        refine Call_ ?_
        refine nmB (v := .builtin "any") G C₃.old ?_
        refine PyProof.Rows.callWith_builtin1 ?_
        refine args_cons ?_
        refine compE (b := b) ?_
        refine Subscript_ ?_
        refine nmC C₃.c5 ?_
        refine nmL n₃ (if_pos rfl) ?_
        refine itemR C₃.od (by simp [rowsO]; omega) (by simp [rowsO]) fun a ⟨va, la, ia⟩ => ?_
        generalize hrow : (rowsO ls).getD i [] = row at ia
        have hrl : row.length ≤ 5 := by rw [← hrow]; exact rowO_len
        have hval : va.length = row.length := by rw [ia.length, List.length_map]
        refine CompQ.list r.hh la (by rw [List.size_toArray]; omega) (fun _ => False) (fun j _ ys => ys = (row.map fun n => Value.bool (os.any (· == n))).take j) (fun _ x => x.elim) (fun x => x) (fun _ _ => rfl) (fun _ _ _ _ x _ => x)
          (fun j v h₄ t₄ ys' m₄ E4 hv e2 k₄ n₄ _ => ?_) (fun h₄ t₄ ys' e2 _ k₄ l₄ h₅ k₅ => ?_)
        · have kx4 : Ex h₃ h₄ := k₄.fresh fun _ x => x.elim
          have hC4 : ∀ {a : Addr} {o : Obj}, h₃.get? a = some o → a ≠ h₃.objs.size + 2 := fun e => Nat.ne_of_lt (Nat.lt_of_lt_of_le (Heap.lt_size e) (Nat.le_add_right _ _))
          have hlt : j < row.length := by
            have := (Array.getElem?_eq_some_iff.mp hv).1
            rw [List.size_toArray] at this; omega
          obtain ⟨tv, rfl⟩ := ia.int_at j v (by simpa using hv)
          have e : ((row.map fun n : Nat => (n : Int)).getD j 0) = ((row.getD j 0 : Nat) : Int) := by simp [hlt]
          rw [e]
          refine asgN n₄ fun h₅ n₅ k₅ => wpAny_tests_nil ?_
          simp only [if_true]
          have kx5 : Ex h₃ h₅ := fun a o e => k₅ a o (hC4 e) (kx4 a o e)
          refine wpAny_Compare1 ?_
          refine nmL n₅ (if_pos rfl) ?_
          refine nmC (CellX f₃ kx5) ?_
          refine in_list_ints (s := St b h₅ _) ((kx5.lst lo)) io ?_
          rw [anyInt]
          refine ⟨h₅, _, _, rfl, Kp.ofB k₅ fun a e => .inr (by rw [e]; exact Nat.lt_succ_self _), n₅, ?_⟩
          rw [e2, List.take_add_one]
          simp [hlt]
        · have kx4 : Ex h₃ h₄ := k₄.fresh fun _ x => x.elim
          have hC4 : ∀ {a : Addr} {o : Obj}, h₃.get? a = some o → a ≠ h₃.objs.size + 2 := fun e => Nat.ne_of_lt (Nat.lt_of_lt_of_le (Heap.lt_size e) (Nat.le_add_right _ _))
          have kx5 : Ex h₃ h₅ := fun a o e => k₅ a o (hC4 e) (kx4 a o e)
          have l₅ := LsB l₄ k₅ (Nat.ne_of_lt (Nat.lt_succ_self _))
          have e3 : ys' = (row.map fun n => os.any (· == n)).map Value.bool := by
            rw [e2, List.map_map, List.take_of_length_le (by rw [List.length_map, List.size_toArray]; omega)]; rfl
          rw [e3] at l₅
          refine args_nil ?_
          refine anyB r.hh l₅ fun h₆ t₆ k₆ => ?_
          exact ⟨by unfold dueP; rw [hf, Bool.false_or, hrow], h₆, _, rfl, kx5.trans k₆⟩
    · obtain ⟨rfl, h₄, t₄, rfl, k₄⟩ := hv
      refine ⟨h₄, _, _, rfl, kp3.trans (Kp.ofEx k₄ _ _), n₃.keeps k₄, ?_⟩
      rw [e1, List.range_succ, List.map_append]
      rfl
  · have kx : Ex h₁ h₂ := k₂.fresh fun _ x => x.elim
    have hC : ∀ {a : Addr} {o : Obj}, h₁.get? a = some o → a ≠ h₁.objs.size + 2 := fun e => Nat.ne_of_lt (Nat.lt_of_lt_of_le (Heap.lt_size e) (Nat.le_add_right _ _))
    have hLs : L < h₁.objs.size := (hn.keeps k₁).lt
    have hnone : h.get? (h₁.objs.size + 1) = none := by
      cases e : h.get? (h₁.objs.size + 1) with
      | none => rfl
      | some o => exact absurd (Heap.lt_size (k₁ _ _ e)) (Nat.not_lt.mpr (Nat.le_succ _))
    refine ⟨Nat.ne_of_lt (Nat.lt_of_lt_of_le hLs (Nat.le_add_right _ _)), _, (hn.keeps k₁).keeps kx, fun h₃ n₃ k₃ => ?_⟩
    refine q h₃ _ (h₁.objs.size + 1) (fun a o na e => k₃ a o (fun c => c.elim na (hC (k₁ _ _ e))) (kx a o (k₁ _ _ e))) n₃ ?_ hnone
    have l₃ := LsB l₂ k₃ (fun c => c.elim (Nat.ne_of_gt (Nat.lt_succ_of_lt hLs)) (Nat.ne_of_lt (Nat.lt_succ_self _)))
    rw [e1] at l₃
    unfold BoolsL dues
    rw [List.map_map]
    exact l₃
end
end
end Mine

namespace Mine
section
open PySem PySem.W PyProof.Rows PySem.SeqAt
/-- a list of bools as data: its objects carry it, it can be laid, it is flat, and it is the same as itself -/
theorem boolData (bs : List Bool) : CarriedAll (bs.map Value.bool) (bs.map PyData.bool) ∧ PyData.canLayAll0 (bs.map PyData.bool) = true ∧ PyData.depthAll (bs.map PyData.bool) = 0 ∧
    PySem.Spec.sameAll (bs.map PyData.bool) (bs.map PyData.bool) = true := by
  induction bs with
  | nil => exact ⟨.nil, rfl, rfl, by simp [PySem.Spec.sameAll]⟩
  | cons c bs ih =>
    obtain ⟨i1, i2, i3, i4⟩ := ih
    refine ⟨.cons (.bool c) i1, ?_, ?_, ?_⟩
    · simpa [PyData.canLayAll0, PyData.canLay0] using i2
    · simpa [PyData.depthAll, PyData.depth] using i3
    · simpa [PySem.Spec.sameAll, PySem.Spec.same] using i4
theorem ints_rev {vs : List Value} {ns : List Int} (x : IntsAre vs ns) : IntsAre vs.reverse ns.reverse := by
  induction x with
  | nil => exact .nil
  | cons n t _ ih => rw [List.reverse_cons, List.reverse_cons]; exact ints_snoc ih n t
def TabS (h : Heap) (X : Addr → Prop) (q : Str) : Prop := ∃ ps, Tab h ps ∧ (codeAmong p2 ps.toList = none ∨ ∃ c', codeAmong p2 ps.toList = some (.ref c') ∧ h.CodeRec (.ref c') q ∧ ¬ X c')
theorem rec_ex {h h' : Heap} {c : Addr} {q : Str} {W : Addr → Prop} (x : h.CodeRec (.ref c) q) (k : ExB W h h') (n : ¬ W c) : h'.CodeRec (.ref c) q := by
  obtain ⟨c₂, oc, vs, t, e, ho, hd, hq⟩ := x
  cases e
  exact ⟨c, oc, vs, t, rfl, k _ _ n ho, hd, hq⟩
theorem TabS.but {h h' : Heap} {X : Addr → Prop} {q : Str} {W : Addr → Prop} (x : TabS h X q) (k : ExB W h h') (hW : ∀ a, W a → (X a ∨ h.get? a = none) ∧ a ≠ 101) : TabS h' X q := by
  obtain ⟨ps, T, c⟩ := x
  refine ⟨ps, ⟨k _ _ (fun c => (hW _ c).2 rfl) T.1, T.2⟩, c.imp id fun ⟨c', e1, e2, e3⟩ => ⟨c', e1, rec_ex e2 k (fun w => ?_), e3⟩⟩
  rcases (hW _ w).1 with c | c
  · exact e3 c
  · obtain ⟨c₂, oc, vs, t, e, ho, _⟩ := e2; cases e; rw [c] at ho; cases ho

section
variable {prog : Program} {w : World} {A : Around} {E : Value → Shared → Prop} {env : Env} {b : Shared} {h : Heap} {t : Nat} {mg mb : Str → Option Value} {g : Heap} {L : Addr} {m : Str → Option Value}
theorem neBools {l l' : Addr} {bs : List Bool} {Q : Value → Shared → Prop} (ha : BoolsL h l bs) (hb : BoolsL h l' bs) (hu : A.units + 64 < cLine) (q : Q (.bool false) (St b h t)) : wpAny (model prog w) A (compareOp .NotEq (.ref l) (.ref l')) Q E (St b h t) := by
  obtain ⟨car, lay, flat, same⟩ := boolData bs
  have shape : SeqAt.shaped (.list (bs.map PyData.bool)) = true := by simp [SeqAt.shaped, PyData.canLay0, PyData.depth, lay, flat]
  have equal : PySem.Spec.same (.list (bs.map PyData.bool)) (.list (bs.map PyData.bool)) = true := by simpa only [PySem.Spec.same] using same
  refine ne_dataH_same (s := St b h t) (reads_newData ha car) (reads_newData hb car) shape shape hu ?_ (by rw [equal]; exact q)
  exact SeqAt.noMix_of_shape (.list .bool) rfl _ _ (list_map_has fun _ => rfl) (list_map_has fun _ => rfl)
theorem anyLam {params : Arguments} {body : Expr} {scope : Scope} {clos : List (Str × Addr)} {X : Addr → Prop} {Q : Value → Shared → Prop} (G : Gd w mg mb g) (hg : g.get? 101 = none) (k : Ex g h) (C : CodeHd g 103 101) (T : TabS h X (env.qual ++ "<lambda>")) (hX : ∀ a, X a → ∃ o, h.get? a = some o)
    (q : ∀ f c' ctv h' tk, ExB (· = 101) h h' → h.get? f = none → h'.get? f = some (kla_obj "<lambda>" (env.qual ++ "<lambda>") params body scope clos ((mg "__name__").getD .none) c' ctv) → h'.CodeRec (.ref c') (env.qual ++ "<lambda>") → ¬ X c' →
      TabS h' X (env.qual ++ "<lambda>") → Q (.ref f) (St b h' tk))
    (hd : defaultsOf params env = ([], []) := by rfl) (hcl : closureFor scope env = pure clos := by rfl) (hge : env.globals = mainGlobals := by rfl) (hcode : env.code = .ref 103 := by kernel_rfl) :
    wpAny (model prog w) A (eval (.Lambda params body scope p2) env) Q E (St b h t) := by
  obtain ⟨ps, Tp, c⟩ := T
  rcases c with hnf | ⟨c', e1, e2, e3⟩
  · refine mkLam G hg k C Tp hnf (fun f c' ctv h' tk k' hf0 hc0 hf hcr T' => ?_) hd hcl hge hcode
    have n1 : ¬ X c' := fun c => by obtain ⟨o, e⟩ := hX _ c; rw [hc0] at e; cases e
    refine q f c' ctv h' tk k' hf0 hf hcr n1 ⟨_, T', .inr ⟨c', ?_, hcr, n1⟩⟩
    rw [Array.toList_append]
    exact codeAmong_snoc _ Tp.2 hnf
  · refine hitLam G hg k C Tp e1 (fun f ctv h' tk k' hf0 hf => ?_) hd hcl hge hcode
    have hcr := rec_ex e2 (k'.but (fun _ => False)) (fun x => x)
    exact q f c' ctv h' tk (k'.but _) hf0 hf hcr e3 ⟨ps, ⟨k' _ _ Tp.1, Tp.2⟩, .inr ⟨c', e1, hcr, e3⟩⟩
end
theorem Room.in1 {A : Around} {d u : Nat} (r : Room A d (u + 1)) : Room A.in1 d u := ⟨r.hh, r.dp, by have := r.un; show A.units + 1 + u < _; omega⟩

def keyS (ls : List (List Nat)) (ts : Nat) : List Int := (List.range 5).map fun i => ilF (scan (ls.getD i [])).cs (scan (ls.getD i [])).b (scan (ls.getD i [])).nt ts

section
variable {prog : Program} {w : World} {A : Around} {E : Value → Shared → Prop} {b : Shared} {h : Heap} {t : Nat} {mg mb : Str → Option Value} {g : Heap} {L : Addr} {m : Str → Option Value} {Q : Flow → Shared → Prop}
theorem st12 (G : Gd w mg mb g) (hg : g.get? 101 = none) (C : CodeHd g 103 101) (r : Room A 30 70) {sp cl ud od fl du : Addr} {ls : List (List Nat)} {bs db : List Bool} {c3 : Option Value} (hn : h.Ns L m) (hmd : m "due" = some (.ref du)) (h3 : h.IsCell (L + 3) c3)
    (hls : ls.length = 5) (hil : ∀ l ∈ ls, IsLead l) (hb : bs.length = 5) (hL1 : L ≠ 101) (hL3 : L + 3 ≠ 101) {ps : Array Value} (T : Tab h ps) (hnf : codeAmong p2 ps.toList = none)
    (hTurn : ∀ (ts : Nat) (ns : List Nat), 1 ≤ ts → ts ≤ 6 → ns.Perm (List.range 5) → ns.Pairwise (fun x y => (keyS ls ts).getD x 0 ≤ (keyS ls ts).getD y 0) → turnF (rowsU ls) (rowsO ls) ns.reverse bs = db)
    (hK : ∀ h', ExB (fun a => a = L ∨ a = L + 3 ∨ a = 101) h h' → Cst2 g h' L sp cl ud od ls ∧ h'.IsCell (L + 6) (some (.ref fl)) ∧ BoolsL h' fl bs ∧ BoolsL h' du db)
    (q : ∀ h' t' ps', h'.get? 101 = some (tabObj ps') → Ex g h' → Q .next (St b h' t')) :
    wpAny (model prog w) A (exec (stm w 12) (LE w L)) Q E (St b h t) := by
  have hn3 : L ≠ L + 3 := Nat.ne_of_lt (Nat.lt_of_lt_of_le (Nat.lt_succ_self _) (Nat.le_add_right _ 2))
  have C0 := (hK h (ExB.refl _ _)).1
  refine wpAny_For ?_
  refine Call_ ?_
  refine nmB (v := .type "range") G C0.old ?_
  refine PyProof.Rows.callWith_type1 ?_
  refine args_cons (cInt ?_)
  refine args_cons (cInt ?_)
  refine args_nil ?_
  refine rng2 fun rr h₁ t₁ u1 u2 u3 k₁ r₁ => ?_
  have n₁ := hn.keeps k₁
  have c₁ := CellX h3 k₁
  have T₁ : TabS h₁ (fun a => a = L ∨ a = L + 3 ∨ a = h₁.objs.size) ((LE w L).qual ++ "<lambda>") := ⟨ps, ⟨k₁ _ _ T.1, T.2⟩, .inl hnf⟩
  have hM1 : ∀ a, (a = L ∨ a = L + 3 ∨ a = 101) → a < h₁.objs.size := fun a c => by
    rcases c with c | c | c
    · rw [c]; exact n₁.lt
    · rw [c]; obtain ⟨o, e, _⟩ := c₁; exact Heap.lt_size e
    · rw [c]; obtain ⟨ps, T, _⟩ := T₁; exact Heap.lt_size T.1
  refine forRange r.hh r₁ (by decide) (by decide) (by decide) (by decide) (n := 6) (by decide) (fun a => a = L ∨ a = L + 3 ∨ a = 101)
    (fun i h => ∃ m', h.Ns L m' ∧ m' "due" = some (.ref du) ∧ (∃ v, h.IsCell (L + 3) v) ∧ TabS h (fun a => a = L ∨ a = L + 3 ∨ a = h₁.objs.size) ((LE w L).qual ++ "<lambda>")) hM1
    (fun h' x => ⟨m, n₁.keeps x, hmd, ⟨_, CellX c₁ x⟩, T₁.but (x.but (fun _ => False)) (fun _ c => c.elim)⟩) (fun i h₀ h₂ ⟨m', z1, z2, ⟨v, z3⟩, z4⟩ x => ?_) (fun i tk h₂ t₂ E' hi ⟨m', z1, z2, ⟨v, z3⟩, z4⟩ k₂ hI => ?_) fun h₂ t₂ ⟨m', z1, z2, z3, z4⟩ k₂ => ?_
  · have hne : ∀ a, (a = L ∨ a = L + 3 ∨ a = 101) → ¬ a = h₁.objs.size := fun a c e => Nat.ne_of_lt (hM1 a c) e
    exact ⟨m', z1.at' fun o e => x _ o (hne _ (.inl rfl)) e, z2, ⟨v, CellB z3 x (hne _ (.inr (.inl rfl)))⟩, z4.but x fun a c => ⟨.inl (.inr (.inr c)), fun e => hne _ (.inr (.inr e)) c⟩⟩
  · have kM2 : ExB (fun a => a = L ∨ a = L + 3 ∨ a = 101) h h₂ := fun a o na e => k₂ a o na (k₁ _ _ e)
    refine asgNC (c := L + 3) z3 fun h₃ c₃ k₃ => ?_
    rw [show (1 : Int) + (i : Int) = ((1 + i : Nat) : Int) from by omega] at c₃
    have n₃ : h₃.Ns L m' := z1.at' fun o e => k₃ _ o hn3 e
    have kM3 : ExB (fun a => a = L ∨ a = L + 3 ∨ a = 101) h h₃ := fun a o na e => k₃ a o (fun c => na (.inr (.inl c))) (kM2 a o na e)
    have T₃ := z4.but k₃ fun a c => ⟨.inl (.inr (.inl c)), fun e => hL3 ((show a = L + 3 from c).symm.trans e)⟩
    have C3 := (hK h₃ kM3).1
    have hI₃ : ∃ o, h₃.get? h₁.objs.size = some o := by
      obtain ⟨o, e⟩ := hI
      exact ⟨o, k₃ _ _ (fun c => Nat.ne_of_gt (hM1 _ (.inr (.inl rfl))) c) e⟩
    refine wpAny_execs_cons ?_
    refine asgL (x := "order") ?_
    refine CallKw ?_
    refine nmB (v := .builtin "sorted") G C3.old ?_
    refine callWith_kw ?_
    refine args_cons ?_
    refine Call_ ?_
    refine nmB (v := .type "range") G C3.old ?_
    refine PyProof.Rows.callWith_type1 ?_
    refine args_cons (cInt ?_)
    refine args_nil ?_
    refine rng1 fun r2 h₄ t₄ v1 v2 v3 k₄ r₄ => ?_
    refine args_nil ?_
    refine kws_cons ?_
    have n₄ := n₃.keeps k₄
    have c₄ := CellX c₃ k₄
    have T₄ := T₃.but (k₄.but (fun _ => False)) (fun _ c => c.elim)
    have hr1 : r2 ≠ 101 := fun c => by obtain ⟨ps, T, _⟩ := T₄; rw [c] at r₄; have := T.1; rw [r₄] at this; cases this
    refine anyLam (X := fun a => a = L ∨ a = L + 3 ∨ a = h₁.objs.size) G hg (C3.old.trans k₄) C T₄ ?_ fun f c' ctv h₅ tk₅ k₅ hf0 hf hcr hX T₅ => ?_
    · rintro a (c | c | c)
      · rw [c]; obtain ⟨o, _, _, e, _⟩ := n₄; exact ⟨o, e⟩
      · rw [c]; obtain ⟨o, e, _⟩ := c₄; exact ⟨o, e⟩
      · rw [c]; obtain ⟨o, e⟩ := hI₃; exact ⟨o, k₄ _ _ e⟩
    refine kws_nil ?_
    show wpAny _ _ (call (.builtin "sorted") [.ref r2] [(Str.ofString "key", .ref f)]) _ _ _
    have n₅ : h₅.Ns L m' := n₄.at' fun o e => k₅ _ o hL1 e
    have c₅ := CellB c₄ k₅ hL3
    have kM5 : ExB (fun a => a = L ∨ a = L + 3 ∨ a = 101) h h₅ := fun a o na e => k₅ a o (fun c => na (.inr (.inr c))) (k₄ _ _ (kM3 a o na e))
    have hfL' : f ≠ L := fun c => by obtain ⟨o, _, _, e, _⟩ := n₄; rw [← c, hf0] at e; cases e
    have r₅ : IsRange h₅ r2 0 ((5 : Nat) : Int) 1 v1 v2 v3 := k₅ _ _ hr1 r₄
    refine sortK (L := L) (m := m') (n := 5) (kz := keyS ls (1 + i)) r.hh r₅ (by decide) (by simp [keyS]) n₅ (fun j u h₆ tk₆ hj k₆ n₆ => ?_) fun D h₆ tk₆ ns k₆ n₆ hD0 hDL iD hp hs => ?_
    · have kM6 : ExB (fun a => a = L ∨ a = L + 3 ∨ a = 101) h h₆ := fun a o na e => k₆ a o (fun c => na (.inl c)) (kM5 a o na e)
      have C6 := (hK h₆ kM6).1
      have c₆ := CellB c₅ k₆ (Ne.symm hn3)
      refine call_lam (binds := [("one", .int (j : Int) u)]) G C6.old (k₆ _ _ hfL' hf) (rec_but hcr n₅ k₆) (by have := r.dp; have e : A.in1.in1.depth = A.depth := rfl; rw [e]; omega) rfl (locs rfl) rfl rfl rfl (by decide) fun h₇ n₇ k₇ => ?_
      have C7 := C6.ex k₇
      refine MethodCall_ ?_
      refine Subscript_ ?_
      refine nmF (c := L + 9) C7.c9 ?_
      refine nmL n₇ rfl ?_
      refine getSp C7.sp (by omega) (by omega) fun x Wx => ?_
      obtain ⟨dx, mx, Tx, Cx, vx, tb, tn, tt, w1, w2, a1, a2, a3, a4, a5, a6, a7, a8, w3, w4, w5⟩ := Ws.all Wx
      refine methN (f := 52) G C7.old w1 w2 a6 ?_
      refine cw1 G ?_
      refine args_cons ?_
      refine nmF (c := L + 3) (CellX c₆ k₇) ?_
      refine args_nil ⟨C7.old, ?_⟩
      obtain ⟨hcj, hzj⟩ := lead_cps (hil (ls.getD j []) (by rw [List.getD_eq_getElem?_getD, List.getElem?_eq_getElem (by omega)]; exact List.getElem_mem _))
      have hsj := scan_len (ls.getD j [])
      have rr : ∀ env, Room (A.in1.in1.deeper env) 10 30 := fun env => ((r.le (d' := 11) (u' := 35) (by decide) (by decide)).in1.in1).deeper
      refine il_spec (ts := 1 + i) G C7.old (rr _) Wx (by omega) (by omega) (by omega) fun h₈ tk₈ t₈ k₈ => ?_
      refine ⟨h₈, _, t₈, ?_, rfl, k₇.trans k₈⟩
      congr 1
      simp [keyS, List.getD_eq_getElem?_getD, hj]
    · have kM6 : ExB (fun a => a = L ∨ a = L + 3 ∨ a = 101) h h₆ := fun a o na e => k₆ a o (fun c => na (.inl c)) (kM5 a o na e)
      refine ⟨h₆, _, _, rfl, n₆, fun h₇ n₇ k₇ => ?_⟩
      have kM7 : ExB (fun a => a = L ∨ a = L + 3 ∨ a = 101) h h₇ := fun a o na e => k₇ a o (fun c => na (.inl c)) (kM6 a o na e)
      obtain ⟨C7, f7, F7, d7⟩ := hK h₇ kM7
      obtain ⟨wv, lD, iD⟩ := iD
      have lD7 := LsB lD k₇ hDL
      have hwl : wv.length = 5 := by rw [iD.length, List.length_map, hp.length_eq]; rfl
      have hnl : ns.length = 5 := by rw [hp.length_eq]; rfl
      have hdue : (fun y => if y = (Str.ofString "order") then some (Value.ref D) else m' y) "due" = some (.ref du) := (if_neg (by rw [ofString_inj]; decide)).trans z2
      refine wpAny_execs_cons ?_
      refine wpAny_If ?_
      refine wpAny_isTrue_Compare1 ?_
      refine Call_ ?_
      refine nmG (v := .ref 99) G C7.old ?_
      refine cw1 G ?_
      refine args_cons ?_
      refine nmC f7 ?_
      refine args_cons ?_
      refine subSS (b := b) ?_
      refine nmL n₇ (if_pos rfl) ?_
      refine partN ?_
      refine partN ?_
      refine wpAny_UnaryOp ?_
      refine cInt ?_
      refine PyProof.Rows.neg_int (s := St b h₇ _) ?_
      refine ⟨D, wv.toArray, none, none, some (-1), h₇, _, rfl, rfl, lD7, by rw [List.size_toArray]; omega, .none, .none, .int _ _, by simp, fun D2 h₈ k₈ hD2 l₈ => ?_⟩
      rw [krv_pick] at l₈
      have C8 := C7.ex k₈
      refine args_cons ?_
      refine nmC C8.c4 ?_
      refine args_cons ?_
      refine nmC C8.c5 ?_
      refine args_nil ⟨C8.old, ?_⟩
      have hi8 : IntsL h₈ D2 ns.reverse := ⟨wv.reverse, by simpa using l₈, by rw [List.map_reverse]; exact ints_rev iD⟩
      refine turn_spec G C8.old (r.le (by decide) (by decide)) (F7.ex k₈) hi8 C8.ud C8.od (by omega) (by rw [List.length_reverse]; omega) ?_ (by simp [rowsU, hb]) (by simp [rowsO, hb]) ?_ ?_ fun a h₉ tk₉ k₉ ha0 bL => ?_
      · intro k hk
        rw [hb]
        exact List.mem_range.mp (hp.mem_iff.mp (List.mem_reverse.mp hk))
      · intro rw' hr
        obtain ⟨i', hi', e⟩ := List.getElem_of_mem hr
        have e' : rw' = (rowsU ls).getD i' [] := by rw [← e]; simp [hi']
        rw [e', hb]
        exact ⟨by have := rowU_len (ls := ls) (k := i'); omega, fun j hj => rowU_lt j hj⟩
      · intro rw' hr
        obtain ⟨i', hi', e⟩ := List.getElem_of_mem hr
        have e' : rw' = (rowsO ls).getD i' [] := by rw [← e]; simp [hi']
        rw [e', hb]
        exact ⟨by have := rowO_len (ls := ls) (k := i'); omega, fun j hj => rowO_lt j hj⟩
      · rw [hTurn (1 + i) ns (by omega) (by omega) hp hs] at bL
        have k79 := k₈.trans k₉
        refine nmL (n₇.keeps k79) hdue ?_
        refine neBools bL (d7.ex k79) (by have := r.un; omega) ?_
        refine trB ?_
        simp only [Bool.false_eq_true, if_false]
        refine wpAny_execs_nil (wpAny_execs_nil ⟨h₉, _, rfl, ?_, _, n₇.keeps k79, hdue, ⟨_, CellX (CellB (CellB c₅ k₆ (Ne.symm hn3)) k₇ (Ne.symm hn3)) k79⟩, ?_⟩)
        · refine (Kp.ofB k₃ fun a e => .inl (.inr (.inl e))).trans ((Kp.ofEx k₄ _ _).trans ((Kp.ofB k₅ fun a e => .inl (.inr (.inr e))).trans ((Kp.ofB k₆ fun a e => .inl (.inl e)).trans ((Kp.ofB k₇ fun a e => .inl (.inl e)).trans (Kp.ofEx k79 _ _)))))
        · have T₆ := T₅.but k₆ fun a c => ⟨.inl (.inl c), fun e => hL1 ((show a = L from c).symm.trans e)⟩
          have T₇ := T₆.but k₇ fun a c => ⟨.inl (.inl c), fun e => hL1 ((show a = L from c).symm.trans e)⟩
          exact T₇.but (k79.but (fun _ => False)) (fun _ c => c.elim)
  · obtain ⟨ps', T', _⟩ := z4
    exact q h₂ _ ps' T'.1 (hK h₂ (fun a o na e => k₂ a o na (k₁ _ _ e))).1.old

theorem st13 {Q : Flow → Shared → Prop} (q : Q (.ret (.bool true)) (St b h t)) : wpAny (model prog w) A (exec (stm w 13) (LE w L)) Q E (St b h t) := by
  refine wpAny_Return_some ?_
  exact wpAny_Constant_bool q
end
end
end Mine

namespace Mine
section
open PySem PySem.W PyProof.Rows PySem.SeqAt
/-- what the plain law must say -/
structure LawOK (ls : List (List Nat)) : Prop where
  les : ∀ i j, i < 5 → j < 5 → lessL (ls.getD i []) (ls.getD j []) = tld ls i j
  eq : ∀ i j, i < 5 → j < 5 → decide ((scan (ls.getD i [])).cs = (scan (ls.getD j [])).cs ∧ ((scan (ls.getD i [])).b : Int) = ((scan (ls.getD j [])).b : Int)) = decide (colsF 6 (ls.getD i []) = colsF 6 (ls.getD j []))
  turn : ∀ (d : Int) (n0 : List Nat), n0.Perm (List.range 5) → n0.Pairwise (fun x y => (key0 ls).getD x 0 ≤ (key0 ls).getD y 0) → ∀ (ts : Nat) (ns : List Nat), 1 ≤ ts → ts ≤ 6 → ns.Perm (List.range 5) → ns.Pairwise (fun x y => (keyS ls ts).getD x 0 ≤ (keyS ls ts).getD y 0) →
    turnF (rowsU ls) (rowsO ls) ns.reverse (buildAll d (rowsU ls) n0) = dues (rowsO ls) (outs (rowsU ls) (buildAll d (rowsU ls) n0) 5)

def Old (L a : Addr) : Prop := a = 101 ∨ ∃ i : Nat, i ≤ 9 ∧ a = L + i
/-- the slots stand -/
structure Sl (L : Addr) (h : Heap) : Prop where
  cell : ∀ i : Nat, 1 ≤ i → i ≤ 9 → ∃ v, h.IsCell (L + i) v
  ns : ∃ m, h.Ns L m
  tab : ∃ ps, h.get? 101 = some (tabObj ps)
theorem Sl.live {L a : Addr} {h : Heap} (x : Sl L h) (o : Old L a) : ∃ o, h.get? a = some o := by
  rcases o with rfl | ⟨i, hi, rfl⟩
  · obtain ⟨ps, e⟩ := x.tab; exact ⟨_, e⟩
  · by_cases c : i = 0
    · subst c; obtain ⟨m, o, _, _, e, _⟩ := x.ns; exact ⟨o, e⟩
    · obtain ⟨v, o, e, _⟩ := x.cell i (by omega) hi; exact ⟨o, e⟩
theorem Sl.no {L a : Addr} {h : Heap} (x : Sl L h) (e : h.get? a = none) : ¬ Old L a := fun o => by obtain ⟨o', e'⟩ := x.live o; rw [e] at e'; cases e'
theorem nc {L : Addr} {i j : Nat} (h : i ≠ j) : (L + i : Addr) ≠ L + j := fun e => h (Nat.add_left_cancel e)
theorem n0 {L : Addr} {j : Nat} (h : 0 ≠ j) : (L : Addr) ≠ L + j := fun e => h (Nat.add_left_cancel (show L + 0 = L + j from e))
theorem gk {g X Y : Heap} {W : Addr → Prop} (x : Ex g X) (k : ExB W X Y) (hW : ∀ a, W a → g.get? a = none) : Ex g Y := fun a o e => k a o (fun c => by rw [hW a c] at e; cases e) (x a o e)
theorem gnone {g X : Heap} {a : Addr} (x : Ex g X) (e : X.get? a = none) : g.get? a = none := by
  cases e2 : g.get? a with
  | none => rfl
  | some o => rw [x _ _ e2] at e; cases e
theorem Sl.step {L : Addr} {X Y : Heap} {W : Addr → Prop} (x : Sl L X) (k : ExB W X Y) (hc : ∀ i : Nat, 1 ≤ i → i ≤ 9 → W (L + i) → ∃ v, Y.IsCell (L + i) v) (hn : ∃ m, Y.Ns L m) (ht : ∃ ps, Y.get? 101 = some (tabObj ps)) : Sl L Y where
  cell := fun i h1 h9 => by
    by_cases c : W (L + i)
    · exact hc i h1 h9 c
    · obtain ⟨v, e⟩ := x.cell i h1 h9; exact ⟨v, CellB e k c⟩
  ns := hn
  tab := ht

section
variable {prog : Program} {w : World} {A : Around} {b : Shared} {hp : Heap} {t : Nat} {mg mb : Str → Option Value} {g : Heap}
theorem law_body {R : Result → Shared → Prop} (G : Gd w mg mb g) (hg : g.get? 101 = none) (C : CodeHd g 103 101) (hgL : g.objs.size ≤ hp.objs.size) (k : Ex g hp) (T : Tab hp #[]) (r : Room A 31 73) {sc : Addr} {vs0 : List Value} {ns0 : List Int} (hl : g.IsList sc vs0.toArray) (hi : IntsAre vs0 ns0) (hz : vs0.length ≤ 1000)
    (hLaw : ∀ ls : List (List Nat), ls.length = 5 → (∀ l ∈ ls, IsLead l) → LawOK ls)
    (q : ∀ h' t' ps, Ex g h' → h'.get? 101 = some (tabObj ps) → R (.ok (.ret (.bool true))) (St b h' t')) :
    codeAny (model prog w) A (.call (.ref 104) ⟨[.ref sc], []⟩) R (St b hp t) := by
  refine call_KC (f := 104) [("script", .ref sc)] G k (by kernel_rfl) (by kernel_rfl) (by kernel_rfl) (by have := r.dp; omega) (by kernel_rfl) (by kernel_rfl) (by kernel_rfl) (by kernel_rfl) (by kernel_rfl) (by kernel_rfl) (by kernel_rfl) fun h₀ t₀ hn hc k₀ => ?_
  have h101 : (101 : Nat) < hp.objs.size := Heap.lt_size T.1
  generalize hL : hp.objs.size = L at hn hc h101 hgL ⊢
  have hbody : bodyAt (KK w) 104 = [stm w 0, stm w 1, stm w 2, stm w 3, stm w 4, stm w 5, stm w 6, stm w 7, stm w 8, stm w 9, stm w 10, stm w 11, stm w 12, stm w 13] := by kernel_rfl
  rw [hbody]
  have r' : Room (A.deeper (LE w L)) 30 70 := r.deeper
  have c1 := hc "nums" (L + 1) (by kernel_rfl)
  have c2 := hc "value" (L + 2) (by kernel_rfl)
  have c3 := hc "size" (L + 3) (by kernel_rfl)
  have c4 := hc "under" (L + 4) (by kernel_rfl)
  have c5 := hc "over" (L + 5) (by kernel_rfl)
  have c6 := hc "flags" (L + 6) (by kernel_rfl)
  have c7 := hc "outside" (L + 7) (by kernel_rfl)
  have c8 := hc "columns" (L + 8) (by kernel_rfl)
  have c9 := hc "spaces" (L + 9) (by kernel_rfl)
  have T0 : Tab h₀ #[] := ⟨k₀ _ _ T.1, T.2⟩
  have s0 : Sl L h₀ := ⟨fun i h1 h9 => by
      have : i = 1 ∨ i = 2 ∨ i = 3 ∨ i = 4 ∨ i = 5 ∨ i = 6 ∨ i = 7 ∨ i = 8 ∨ i = 9 := by omega
      rcases this with rfl | rfl | rfl | rfl | rfl | rfl | rfl | rfl | rfl
      · exact ⟨_, c1⟩
      · exact ⟨_, c2⟩
      · exact ⟨_, c3⟩
      · exact ⟨_, c4⟩
      · exact ⟨_, c5⟩
      · exact ⟨_, c6⟩
      · exact ⟨_, c7⟩
      · exact ⟨_, c8⟩
      · exact ⟨_, c9⟩, ⟨_, hn⟩, ⟨_, T0.1⟩⟩
  have g0 : Ex g h₀ := k.trans k₀
  have n101 : ∀ i : Nat, (L + i : Addr) ≠ 101 := fun i e => by have e' : (L : Nat) + i = 101 := e; have h' : (101 : Nat) < L := h101; omega
  have gO : ∀ {a : Addr}, Old L a → g.get? a = none := fun o => by
    rcases o with rfl | ⟨i, _, rfl⟩
    · exact hg
    · exact Heap.get?_none_of_le (Nat.le_trans hgL (Nat.le_add_right _ _))
  have oc : ∀ i : Nat, i ≤ 9 → Old L (L + i) := fun i h => .inr ⟨i, h, rfl⟩
  clear c1 c2 c3 c4 c5 c6 c7 c8 c9 hc
  -- nums
  obtain ⟨c0, hc0⟩ := s0.cell 1 (by decide) (by decide)
  refine wpAny_execs_cons (st0 (w := w) (L := L) hn (by with_unfolding_all rfl) ((g0.lst hl)) hi hz hc0 fun hA tA an ws ms kA cA lA iA neA zA => ?_)
  have gA := gk g0 kA fun a e => e ▸ gO (oc 1 (by decide))
  have nA := hn.at' fun o e => kA _ o (n0 (by decide)) e
  have sA : Sl L hA := s0.step kA (fun i _ _ e => (show L + i = L + 1 from e) ▸ ⟨_, cA⟩) ⟨_, nA⟩ ⟨_, kA _ _ (Ne.symm (n101 1)) T0.1⟩
  have TA : Tab hA #[] := ⟨kA _ _ (Ne.symm (n101 1)) T0.1, T0.2⟩
  -- drawn
  refine wpAny_execs_cons (st1 (w := w) (L := L) G gA r'.hh nA cA lA iA zA fun hB tB ad vs ds kB nB lB iB dl dn neB frB => ?_)
  have gB := gk gA kB fun a e => e ▸ gO (oc 0 (by decide))
  have TB : Tab hB #[] := ⟨kB _ _ (fun c => n101 0 c.symm) TA.1, TA.2⟩
  have sB : Sl L hB := sA.step kB (fun i h1 _ e => absurd (show L + i = L from e).symm (n0 (by omega))) ⟨_, nB⟩ ⟨_, TB.1⟩
  -- leads
  refine wpAny_execs_cons (st2 (w := w) (L := L) nB fun hC tC al kC nC pC neC geC => ?_)
  have gC := gk gB kC fun a e => e ▸ gO (oc 0 (by decide))
  have TC : Tab hC #[] := ⟨kC _ _ (fun c => n101 0 c.symm) TB.1, TB.2⟩
  have sC : Sl L hC := sB.step kC (fun i h1 _ e => absurd (show L + i = L from e).symm (n0 (by omega))) ⟨_, nC⟩ ⟨_, TC.1⟩
  have alO : ∀ {a : Addr} {o : Obj}, hB.get? a = some o → a < al := fun e => Nat.lt_of_lt_of_le (Heap.lt_size e) geC
  have alN : ¬ Old L al := fun o => by obtain ⟨o', e'⟩ := sB.live o; exact Nat.lt_irrefl _ (alO e')
  have al2 : L + 2 < al := by obtain ⟨o, e⟩ := sB.live (oc 2 (by decide)); exact alO e
  have lC := LsB lB kC neB
  obtain ⟨c2, hc2⟩ := sC.cell 2 (by decide) (by decide)
  refine wpAny_execs_cons (st3 (w := w) (L := L) G gC hgL r'.hh nC (by simp only [ofString_inj]; rfl) (if_pos rfl) hc2 lC iB dl dn pC al2 fun hD tD mD vals ls kD nD mD1 mD2 pD tX lsl lsI cD2 => ?_)
  have nalO : ∀ {a : Addr}, Old L a → a ≠ al := fun o c => alN (c ▸ o)
  have galN : g.get? al = none := Heap.get?_none_of_le (Nat.le_trans hgL (Nat.le_of_lt (Nat.lt_trans (Nat.lt_of_lt_of_le (Nat.lt_succ_self _) (Nat.le_succ _)) al2)))
  have W3 : ∀ {a : Addr}, (a = L ∨ a = L + 2 ∨ a = al) → g.get? a = none := fun c => by
    rcases c with c | c | c
    · rw [c]; exact gO (oc 0 (by decide))
    · rw [c]; exact gO (oc 2 (by decide))
    · rw [c]; exact galN
  have gD := gk gC kD fun a e => W3 e
  have TD : Tab hD #[] := ⟨kD _ _ (fun c => by
    rcases c with c | c | c
    · exact n101 0 c.symm
    · exact n101 2 c.symm
    · exact nalO (.inl rfl) c) TC.1, TC.2⟩
  have sD : Sl L hD := sC.step kD (fun i h1 h9 e => by
    rcases e with e | e | e
    · exact absurd e.symm (n0 (by omega))
    · have : i = 2 := Nat.add_left_cancel (show (L : Nat) + i = L + 2 from e)
      rw [this]; exact cD2
    · exact absurd e (nalO (oc i h9))) ⟨_, nD⟩ ⟨_, TD.1⟩
  -- spaces
  obtain ⟨d9, hc9⟩ := sD.cell 9 (by decide) (by decide)
  refine wpAny_execs_cons (st4 (w := w) (L := L) G gD hgL r' nD mD2 hc9 pD tX (by omega) lsI fun hE tE sp kE cE SE => ?_)
  have gE := gk gD kE fun a e => e ▸ gO (oc 9 (by decide))
  have nE := nD.at' fun o e => kE _ o (n0 (by decide)) e
  have TE : Tab hE #[] := ⟨kE _ _ (Ne.symm (n101 9)) TD.1, TD.2⟩
  have pE := pD.but kE (fun c => nalO (oc 9 (by decide)) (show al = L + 9 from c).symm)
  have sE : Sl L hE := sD.step kE (fun i _ _ e => (show L + i = L + 9 from e) ▸ ⟨_, cE⟩) ⟨_, nE⟩ ⟨_, TE.1⟩
  -- columns
  obtain ⟨d8, hc8⟩ := sE.cell 8 (by decide) (by decide)
  refine wpAny_execs_cons (st5 (w := w) (L := L) G gE (r'.le (by decide) (by decide)) nE mD2 hc8 pE tX (by omega) lsI fun hF tF cl kF cF SF => ?_)
  have gF := gk gE kF fun a e => e ▸ gO (oc 8 (by decide))
  have nF := nE.at' fun o e => kF _ o (n0 (by decide)) e
  have TF : Tab hF #[] := ⟨kF _ _ (Ne.symm (n101 8)) TE.1, TE.2⟩
  have pF := pE.but kF (fun c => nalO (oc 8 (by decide)) (show al = L + 8 from c).symm)
  have sF : Sl L hF := sE.step kF (fun i _ _ e => (show L + i = L + 8 from e) ▸ ⟨_, cF⟩) ⟨_, nF⟩ ⟨_, TF.1⟩
  -- under, over
  obtain ⟨d4, hc4⟩ := sF.cell 4 (by decide) (by decide)
  obtain ⟨d5, hc5⟩ := sF.cell 5 (by decide) (by decide)
  refine wpAny_execs_cons (st6 (w := w) (L := L) r'.hh nF mD2 hc4 hc5 pF (tX.length.trans lsl) fun hG tG ud od ua oa kG cG4 cG5 fud fod hua hoa hnd hrows nud nod lud lod => ?_)
  have W6 : ∀ {a : Addr}, (a = L + 4 ∨ a = L + 5) → Old L a := fun c => c.elim (fun c => c ▸ oc 4 (by decide)) fun c => c ▸ oc 5 (by decide)
  have gG := gk gF kG fun a e => gO (W6 e)
  have nG := nF.at' fun o e => kG _ o (fun c => c.elim (n0 (by decide)) (n0 (by decide))) e
  have TG : Tab hG #[] := ⟨kG _ _ (fun c => c.elim (fun c => n101 4 c.symm) fun c => n101 5 c.symm) TF.1, TF.2⟩
  have sG : Sl L hG := sF.step kG (fun i _ _ e => e.elim (fun e => e ▸ ⟨_, cG4⟩) fun e => e ▸ ⟨_, cG5⟩) ⟨_, nG⟩ ⟨_, TG.1⟩
  have rowN : ∀ {a : Addr}, a ∈ ua ++ oa → ¬ Old L a := fun ha => sF.no (hrows _ ha).1
  have rowL : ∀ {a : Addr} {o : Obj}, hF.get? a = some o → a ∉ ua ++ oa := fun e ha => by rw [(hrows _ ha).1] at e; cases e
  have rowG : ∀ {a : Addr}, a ∈ ua ++ oa → g.get? a = none := fun ha => gnone gF (hrows _ ha).1
  have K7 : ∀ h', ExB (fun a => (Old L a ∧ a ≠ L + 4 ∧ a ≠ L + 5 ∧ a ≠ L + 8 ∧ a ≠ L + 9) ∨ a ∈ ua ++ oa) hG h' → Cst g h' L sp cl ud od ua oa ls := fun h' kk => by
    refine ⟨gk gG kk fun a c => c.elim (fun c => gO c.1) rowG, ?_, ?_, ?_, ?_, ?_, ?_, ?_, ?_⟩
    · exact CellB (CellB (CellB cE kF (nc (by decide))) kG (fun c => c.elim (nc (by decide)) (nc (by decide)))) kk (fun c => c.elim (fun c => c.2.2.2.2 rfl) fun c => rowN c (oc 9 (by decide)))
    · exact CellB (CellB cF kG (fun c => c.elim (nc (by decide)) (nc (by decide)))) kk (fun c => c.elim (fun c => c.2.2.2.1 rfl) fun c => rowN c (oc 8 (by decide)))
    · exact CellB cG4 kk (fun c => c.elim (fun c => c.2.1 rfl) fun c => rowN c (oc 4 (by decide)))
    · exact CellB cG5 kk (fun c => c.elim (fun c => c.2.2.1 rfl) fun c => rowN c (oc 5 (by decide)))
    · refine SE h' fun a o e1 e2 => ?_
      have no := sD.no e1
      have eF := kF a o (fun c => no ((show a = L + 8 from c) ▸ oc 8 (by decide))) e2
      exact kk a o (fun c => c.elim (fun c => no c.1) (rowL eF)) (kG a o (fun c => no (W6 c)) eF)
    · refine SF h' fun a o e1 e2 => ?_
      have no := sE.no e1
      exact kk a o (fun c => c.elim (fun c => no c.1) (rowL e2)) (kG a o (fun c => no (W6 c)) e2)
    · obtain ⟨o, e, rr⟩ := lud; exact ⟨o, kk _ _ (fun c => c.elim (fun c => sF.no fud c.1) nud) e, rr⟩
    · obtain ⟨o, e, rr⟩ := lod; exact ⟨o, kk _ _ (fun c => c.elim (fun c => sF.no fod c.1) nod) e, rr⟩
  have LW := hLaw ls lsl lsI
  -- the double loop
  have oL : ∀ {a : Addr}, a = L → Old L a ∧ a ≠ L + 4 ∧ a ≠ L + 5 ∧ a ≠ L + 8 ∧ a ≠ L + 9 := fun e => by rw [e]; exact ⟨oc 0 (by decide), n0 (by decide), n0 (by decide), n0 (by decide), n0 (by decide)⟩
  refine wpAny_execs_cons (st7 (w := w) (L := L) G hgL r' nG mD1 lsl lsI LW.les LW.eq hua hoa hnd (fun a ha => (hrows a ha).2) (fun c => rowN c (oc 0 (by decide))) (fun h' kk => K7 h' (kk.mono fun a c => c.imp oL id)) fun hH tH mH kH nH mH1 RU RO => ?_)
  have TH : Tab hH #[] := ⟨kH _ _ (fun c => c.elim (fun c => n101 0 c.symm) fun c => rowN c (.inl rfl)) TG.1, TG.2⟩
  have sH : Sl L hH := sG.step kH (fun i h1 h9 e => absurd e (fun c => c.elim (fun c => n0 (by omega) c.symm) fun c => rowN c (oc i h9))) ⟨_, nH⟩ ⟨_, TH.1⟩
  have adN : ¬ Old L ad := sA.no frB
  have lH : hH.IsList ad vs.toArray := by
    have e1 := LsB lC kD (fun c => by
      rcases c with c | c | c
      · exact neB c
      · exact adN (c ▸ oc 2 (by decide))
      · obtain ⟨o, e, _⟩ := lB; exact Nat.ne_of_lt (alO e) c)
    have e2 := LsB e1 kE (fun c => adN ((show ad = L + 9 from c) ▸ oc 9 (by decide)))
    have e3 := LsB e2 kF (fun c => adN ((show ad = L + 8 from c) ▸ oc 8 (by decide)))
    have e4 := LsB e3 kG (fun c => adN (W6 c))
    exact LsB e4 kH (fun c => c.elim neB fun c => by obtain ⟨o, e, _⟩ := e3; exact rowL e c)
  have Z : ∀ h', ExB (fun a => a = L ∨ a = 101 ∨ a = L + 3 ∨ a = L + 6 ∨ a = L + 7) hH h' → Cst2 g h' L sp cl ud od ls ∧ h'.IsList ad vs.toArray := fun h' kk => by
    have oW : ∀ {a : Addr}, (a = L ∨ a = 101 ∨ a = L + 3 ∨ a = L + 6 ∨ a = L + 7) → Old L a ∧ a ≠ L + 4 ∧ a ≠ L + 5 ∧ a ≠ L + 8 ∧ a ≠ L + 9 := fun c => by
      rcases c with c | c | c | c | c
      · exact oL c
      · rw [c]; exact ⟨.inl rfl, Ne.symm (n101 4), Ne.symm (n101 5), Ne.symm (n101 8), Ne.symm (n101 9)⟩
      · rw [c]; exact ⟨oc 3 (by decide), nc (by decide), nc (by decide), nc (by decide), nc (by decide)⟩
      · rw [c]; exact ⟨oc 6 (by decide), nc (by decide), nc (by decide), nc (by decide), nc (by decide)⟩
      · rw [c]; exact ⟨oc 7 (by decide), nc (by decide), nc (by decide), nc (by decide), nc (by decide)⟩
    have c := K7 h' ((kH.mono fun a c => c.imp oL id).trans (kk.mono fun a c => .inl (oW c)))
    refine ⟨⟨c.old, c.c9, c.c8, c.c4, c.c5, c.sp, c.cl, ?_, ?_⟩, LsB lH kk fun c => adN (oW c).1⟩
    · exact rowsL c.ud hua (RU.but kk fun a ha c => rowN (List.mem_append_left _ ha) (oW c).1)
    · exact rowsL c.od hoa (RO.but kk fun a ha c => rowN (List.mem_append_right _ ha) (oW c).1)
  -- flags
  obtain ⟨d6, hc6⟩ := sH.cell 6 (by decide) (by decide)
  refine wpAny_execs_cons (st8 (w := w) (L := L) hc6 fun hI tI fl kI cI bI ffl => ?_)
  have nI := nH.at' fun o e => kI _ o (n0 (by decide)) e
  have TI : Tab hI #[] := ⟨kI _ _ (Ne.symm (n101 6)) TH.1, TH.2⟩
  have sI : Sl L hI := sH.step kI (fun i _ _ e => (show L + i = L + 6 from e) ▸ ⟨_, cI⟩) ⟨_, nI⟩ ⟨_, TI.1⟩
  have flN : ¬ Old L fl := sH.no ffl
  have fl0 : ∀ {a : Addr}, Old L a → a ≠ fl := fun o c => flN (c ▸ o)
  have K9 : ∀ h', ExB (fun a => a = L ∨ a = fl ∨ a = 101) hI h' → Cst2 g h' L sp cl ud od ls ∧ h'.IsList ad vs.toArray ∧ h'.IsCell (L + 6) (some (.ref fl)) := fun h' kk => by
    have := Z h' fun a o na e => kk a o (fun c => by
      rcases c with c | c | c
      · exact na (.inl c)
      · rw [c, ffl] at e; cases e
      · exact na (.inr (.inl c))) (kI a o (fun c => na (.inr (.inr (.inr (.inl c))))) e)
    refine ⟨this.1, this.2, CellB cI kk fun c => ?_⟩
    rcases c with c | c | c
    · exact n0 (by decide) c.symm
    · exact fl0 (oc 6 (by decide)) c
    · exact n101 6 c
  -- the flags' loop
  refine wpAny_execs_cons (st9 (w := w) (L := L) G hg hgL C r' nI mH1 lsl iB dl TI (fun c => n101 0 c) (fun c => fl0 (.inl rfl) c.symm) (fun c => fl0 (oc 0 (by decide)) c.symm) bI K9 fun hJ tJ mJ nsJ ps kJ nJ bJ pJ sJo TJ hnf => ?_)
  obtain ⟨CJ, _, cJ6⟩ := K9 hJ kJ
  have W9 : ∀ (i : Nat), 1 ≤ i → i ≤ 9 → ¬ (L + i = L ∨ L + i = fl ∨ L + i = 101) := fun i h1 h9 c => by
    rcases c with c | c | c
    · exact n0 (L := L) (j := i) (by omega) c.symm
    · exact fl0 (oc i h9) c
    · exact n101 i c
  have sJ : Sl L hJ := sI.step kJ (fun i h1 h9 e => absurd e (W9 i h1 h9)) ⟨_, nJ⟩ ⟨_, TJ.1⟩
  -- outside
  obtain ⟨d7, hc7⟩ := sJ.cell 7 (by decide) (by decide)
  refine wpAny_execs_cons (st10 (w := w) (L := L) G r' CJ cJ6 bJ buildAll_len hc7 fun hM tM ol kM cM iM fol => ?_)
  have nM := nJ.at' fun o e => kM _ o (n0 (by decide)) e
  have TM : Tab hM ps := ⟨kM _ _ (Ne.symm (n101 7)) TJ.1, TJ.2⟩
  have sM : Sl L hM := sJ.step kM (fun i _ _ e => (show L + i = L + 7 from e) ▸ ⟨_, cM⟩) ⟨_, nM⟩ ⟨_, TM.1⟩
  have kHM : ∀ {a : Addr} {o : Obj}, ¬ (a = L ∨ a = 101 ∨ a = L + 3 ∨ a = L + 6 ∨ a = L + 7) → hH.get? a = some o → hM.get? a = some o := fun {a o} na e => by
    refine kM a o (fun c => na (.inr (.inr (.inr (.inr c))))) (kJ a o (fun c => ?_) (kI a o (fun c => na (.inr (.inr (.inr (.inl c))))) e))
    rcases c with c | c | c
    · exact na (.inl c)
    · rw [c, ffl] at e; cases e
    · exact na (.inr (.inl c))
  -- due
  refine wpAny_execs_cons (st11 (w := w) (L := L) G r' nM (Z hM fun a o na e => kHM na e).1 cM iM fun hN tN du kN nN bN fdu => ?_)
  have TN : Tab hN ps := ⟨kN _ _ (fun c => n101 0 c.symm) TM.1, TM.2⟩
  have sN : Sl L hN := sM.step kN (fun i h1 _ e => absurd (show L + i = L from e).symm (n0 (by omega))) ⟨_, nN⟩ ⟨_, TN.1⟩
  have duN : ¬ Old L du := sM.no fdu
  obtain ⟨d3, hc3⟩ := sN.cell 3 (by decide) (by decide)
  have W12 : ∀ {a : Addr}, (a = L ∨ a = L + 3 ∨ a = 101) → Old L a := fun c => by
    rcases c with c | c | c
    · exact c ▸ oc 0 (by decide)
    · exact c ▸ oc 3 (by decide)
    · exact .inl c
  -- the sizes' loop
  refine wpAny_execs_cons (st12 (w := w) (L := L) (sp := sp) (cl := cl) (ud := ud) (od := od) (fl := fl) G hg C r' nN (if_pos rfl) hc3 lsl lsI buildAll_len (fun c => n101 0 c) (n101 3) TN hnf (LW.turn (ds.getD 5 0) nsJ pJ sJo) (fun h' kk => ?_) fun hZ tZ psZ TZ gZ => ?_)
  · refine ⟨(Z h' fun a o na e => ?_).1, ?_, ?_, ?_⟩
    · refine kk a o (fun c => ?_) (kN a o (fun c => na (.inl c)) (kHM na e))
      rcases c with c | c | c
      · exact na (.inl c)
      · exact na (.inr (.inr (.inl c)))
      · exact na (.inr (.inl c))
    · refine CellB (CellB (CellB cJ6 kM (nc (by decide))) kN (fun c => n0 (by decide) (show L + 6 = L from c).symm)) kk fun c => ?_
      rcases c with c | c | c
      · exact n0 (by decide) c.symm
      · exact nc (by decide) c
      · exact n101 6 c
    · exact LsB (LsB (LsB bJ kM (fun c => fl0 (oc 7 (by decide)) (show fl = L + 7 from c).symm)) kN (fun c => fl0 (oc 0 (by decide)) (show fl = L from c).symm)) kk fun c => flN (W12 c)
    · exact LsB bN kk fun c => duN (W12 c)
  -- return True
  refine wpAny_execs_cons (st13 (w := w) (L := L) ?_)
  exact q hZ _ psZ gZ TZ
end
end
end Mine

namespace Mine
section
open PySem PySem.W PyProof.Rows PySem.SeqAt
theorem fin (hLaw : ∀ ls : List (List Nat), ls.length = 5 → (∀ l ∈ ls, IsLead l) → LawOK ls) : PySem.Challenge.rw_rs0251_01.Holds := hd (by
  -- the top has run: the written part, the globals and the builtins as it left them
  k_fill
  intro w s₀ left mg mb ground written f fo params code doc dflts kws fAt fFn fCode fDoc fName globals args nums script pre lay read light low
  have KX := km_in_of written
  km_tabs written
  have X := (Ground.X ground).1
  refine Ground.open ground ?_
  intro T B D tellE tellW
  km_lay T fName fAt fFn code
  -- the call of law with the script
  wrow_args pre lay read light low
  refine enter_call ?_
  kn_posts
  rename IntsAre _ _ => hIA
  rename Heap.IsList _ _ _ => hIL
  rename (¬ (63 : Int) < _) => h63
  have hT := hT9
  have hG : Gd w mg mb (ghostOf left.heap [(103, 101)]) := ⟨ghost_K hT KX (by kernel_rfl), _, _, _, ghost_top hT T⟩
  have hC : CodeHd (ghostOf left.heap [(103, 101)]) 103 101 := (ghost_code hT).1
  have h101 : (ghostOf left.heap [(103, 101)]).get? 101 = none := hideAll_none _ (List.mem_singleton.mpr rfl)
  have hEx : Ex (ghostOf left.heap [(103, 101)]) left.heap := fun b o e => of_hideAll _ e
  have hTab : Tab left.heap #[] := ⟨hT8 101 (List.mem_singleton.mpr rfl), trivial⟩
  have hf : f = 104 := by
    have e := mg_of (n := "law") KX T.g (v := .ref 104) (by kernel_rfl)
    have e2 : mg "law" = some (.ref f) := fName
    rw [e] at e2
    cases e2
    rfl
  subst hf
  refine law_body (b := left) (hp := left.heap) (t := left.toks) hG h101 hC (Nat.le_of_eq (hideAll_size _ _)) hEx hTab ⟨rfl, by decide, by decide⟩ (ghost_list hT hIL) hIA (by rw [hIA.length]; omega) hLaw fun h' t' ps k' e' => ?_
  refine ⟨⟨.inl ⟨.bool true, .bool true, [], rfl, fun _ => rfl, .bool true, by first | rfl | kernel_rfl, fun _ => ⟨List.nodup_nil, fun _ x => by cases x⟩⟩, k', rfl, globals⟩, ⟨ps, e'⟩, trivial⟩)
end
end Mine

namespace Mine
section
open PySem PySem.W PyProof.Rows PySem.SeqAt
/-! columns of a lead -/
def sumQ (s : Nat) (rs : List Nat) : Nat := (rs.map (· / s)).sum
def colN (s : Nat) (rs : List Nat) (tl : Nat) : Nat := tl + s * (sumQ s rs + rs.length)
theorem fold_blank (s : Int) (c : Int) : ∀ r : Nat, (List.replicate r 32).foldl (colStep s) c = c + (r : Int) := by
  intro r
  induction r generalizing c with
  | zero => simp
  | succ r ih =>
    rw [List.replicate_succ, List.foldl_cons, ih]
    unfold colStep
    rw [if_pos rfl]
    omega
theorem fold_run (s : Nat) (hs : 1 ≤ s) (q r : Nat) : (runCps r).foldl (colStep (s : Int)) ((s * q : Nat) : Int) = ((s * (q + r / s + 1) : Nat) : Int) := by
  unfold runCps
  rw [List.foldl_append, fold_blank, List.foldl_cons, List.foldl_nil]
  unfold colStep
  rw [if_neg (by decide)]
  have e : (((s * q : Nat) : Int) + (r : Int)) = ((s * q + r : Nat) : Int) := by push_cast; rfl
  rw [e, Int.fdiv_eq_ediv_of_nonneg _ (Int.natCast_nonneg _), ← Int.natCast_ediv, Nat.mul_add_div (by omega)]
  rw [show (((q + r / s : Nat) : Int) + 1) = ((q + r / s + 1 : Nat) : Int) from by push_cast; rfl, ← Int.natCast_mul, Nat.mul_comm]
theorem fold_runs (s : Nat) (hs : 1 ≤ s) : ∀ (rs : List Nat) (q : Nat), ((rs.map runCps).flatten).foldl (colStep (s : Int)) ((s * q : Nat) : Int) = ((s * (q + sumQ s rs + rs.length) : Nat) : Int)
  | [], q => by simp [sumQ]
  | r :: rs, q => by
    rw [List.map_cons, List.flatten_cons, List.foldl_append, fold_run s hs, fold_runs s hs rs]
    simp only [sumQ, List.map_cons, List.sum_cons, List.length_cons]
    congr 1
    congr 1
    omega
theorem col_lead (s : Nat) (hs : 1 ≤ s) (rs : List Nat) (tl : Nat) : colF (s : Int) (leadCps rs tl) = (colN s rs tl : Int) := by
  unfold colF leadCps
  rw [List.foldl_append]
  have := fold_runs s hs rs 0
  rw [Nat.mul_zero] at this
  rw [show (0 : Int) = ((0 : Nat) : Int) from rfl, this, fold_blank]
  unfold colN
  rw [Nat.zero_add]
  omega

/-! the scan of a lead -/
theorem tabAt_len (cs : List Int) (b : Nat) : (tabAt cs b).length = max cs.length (b + 1) := by unfold tabAt; rw [List.length_set, padTo_len]
theorem padTo_get (cs : List Int) (b i : Nat) : (padTo cs b).getD i 0 = cs.getD i 0 := by
  unfold padTo
  rw [List.getD_eq_getElem?_getD, List.getD_eq_getElem?_getD]
  by_cases h : i < cs.length
  · rw [List.getElem?_append_left h]
  · rw [List.getElem?_append_right (by omega), List.getElem?_eq_none (l := cs) (by omega), List.getElem?_replicate]
    split <;> rfl
theorem tabAt_get (cs : List Int) (b i : Nat) : (tabAt cs b).getD i 0 = cs.getD i 0 + (if i = b then 1 else 0) := by
  unfold tabAt
  rw [List.getD_eq_getElem?_getD, List.getElem?_set]
  by_cases h : b = i
  · subst h
    rw [if_pos rfl, if_pos rfl, if_pos (by rw [padTo_len]; omega), padTo_get]
    rfl
  · rw [if_neg h, if_neg (fun e => h e.symm), ← List.getD_eq_getElem?_getD, padTo_get, Int.add_zero]
def cntL (rs : List Nat) : List Int := rs.foldl tabAt []
theorem scan_blank (s : Sc) : ∀ r : Nat, (List.replicate r 32).foldl scStep s = ⟨s.cs, s.b + r, s.n + r, s.nt⟩ := by
  intro r
  induction r generalizing s with
  | zero => rfl
  | succ r ih =>
    rw [List.replicate_succ, List.foldl_cons, ih]
    unfold scStep
    rw [if_pos rfl]
    simp only [Sc.mk.injEq, true_and]
    exact ⟨by omega, by omega, trivial⟩
theorem scan_runs : ∀ (rs : List Nat) (cs : List Int) (n nt : Nat), ((rs.map runCps).flatten).foldl scStep ⟨cs, 0, n, nt⟩ = ⟨rs.foldl tabAt cs, 0, n + (rs.sum + rs.length), nt + rs.length⟩
  | [], cs, n, nt => by simp
  | r :: rs, cs, n, nt => by
    rw [List.map_cons, List.flatten_cons, List.foldl_append]
    have e : (runCps r).foldl scStep ⟨cs, 0, n, nt⟩ = ⟨tabAt cs r, 0, n + r + 1, nt + 1⟩ := by
      unfold runCps
      rw [List.foldl_append, scan_blank, List.foldl_cons, List.foldl_nil]
      unfold scStep
      rw [if_neg (by decide), Nat.zero_add]
    rw [e, scan_runs rs, List.foldl_cons]
    simp only [Sc.mk.injEq, List.sum_cons, List.length_cons, true_and]
    exact ⟨by omega, by omega⟩
theorem scan_lead (rs : List Nat) (tl : Nat) : scan (leadCps rs tl) = ⟨cntL rs, tl, rs.sum + rs.length + tl, rs.length⟩ := by
  unfold scan leadCps
  rw [List.foldl_append, scan_runs, scan_blank]
  simp [cntL]
theorem cnt_len_le {rs : List Nat} {m : Nat} (h : ∀ r ∈ rs, r ≤ m) : ∀ cs : List Int, cs.length ≤ m + 1 → (rs.foldl tabAt cs).length ≤ m + 1 := by
  induction rs with
  | nil => intro cs h; exact h
  | cons r rs ih =>
    intro cs hc
    rw [List.foldl_cons]
    refine ih (fun x hx => h x (List.mem_cons_of_mem _ hx)) _ ?_
    rw [tabAt_len]
    have := h r (List.mem_cons_self ..)
    omega
theorem cnt_len_ge : ∀ (rs : List Nat) (cs : List Int), cs.length ≤ (rs.foldl tabAt cs).length ∧ ∀ r ∈ rs, r + 1 ≤ (rs.foldl tabAt cs).length
  | [], cs => ⟨Nat.le_refl _, fun _ h => by cases h⟩
  | r :: rs, cs => by
    obtain ⟨h1, h2⟩ := cnt_len_ge rs (tabAt cs r)
    have h3 := tabAt_len cs r
    rw [List.foldl_cons]
    refine ⟨by omega, fun x hx => ?_⟩
    rcases List.mem_cons.mp hx with rfl | hx
    · omega
    · exact h2 x hx
theorem ilP_tab (cs : List Int) (b ts : Nat) (hts : 1 ≤ ts) : ∀ M, ilP (tabAt cs b) ts M = ilP cs ts M + (if ts ≤ b ∧ b < ts + M then ((b / ts : Nat) : Int) else 0)
  | 0 => by rw [if_neg (by omega)]; rfl
  | M + 1 => by
    rw [ilP_succ, ilP_succ, ilP_tab cs b ts hts M, tabAt_get]
    by_cases h : ts + M = b
    · subst h
      rw [if_neg (by omega), if_pos rfl, if_pos (by omega), Int.mul_add]
      omega
    · rw [if_neg h, Int.add_zero]
      by_cases h2 : ts ≤ b ∧ b < ts + M
      · rw [if_pos h2, if_pos (by omega)]; omega
      · rw [if_neg h2, if_neg (by omega)]; omega
theorem ilP_fold (ts : Nat) (hts : 1 ≤ ts) (M : Nat) : ∀ (rs : List Nat) (cs : List Int), (∀ r ∈ rs, r < ts + M) → ilP (rs.foldl tabAt cs) ts M = ilP cs ts M + (sumQ ts rs : Int)
  | [], cs, _ => by simp [sumQ]
  | r :: rs, cs, h => by
    rw [List.foldl_cons, ilP_fold ts hts M rs _ fun x hx => h x (List.mem_cons_of_mem _ hx), ilP_tab cs r ts hts]
    have hr := h r (List.mem_cons_self ..)
    have e : (if ts ≤ r ∧ r < ts + M then ((r / ts : Nat) : Int) else 0) = ((r / ts : Nat) : Int) := by
      by_cases c : ts ≤ r
      · rw [if_pos ⟨c, hr⟩]
      · rw [if_neg (fun q => c q.1), Nat.div_eq_of_lt (by omega)]; rfl
    rw [e]
    simp only [sumQ, List.map_cons, List.sum_cons]
    push_cast
    omega
theorem ilP_nil (ts : Nat) : ∀ M, ilP [] ts M = 0
  | 0 => rfl
  | M + 1 => by rw [ilP_succ, ilP_nil ts M]; simp
theorem ilP_more (cs : List Int) (ts : Nat) : ∀ M, cs.length - ts ≤ M → ilP cs ts M = ilP cs ts (cs.length - ts)
  | 0, h => by rw [Nat.le_zero.mp h]
  | M + 1, h => by
    by_cases c : cs.length - ts = M + 1
    · rw [c]
    · rw [ilP_succ, ilP_more cs ts M (by omega)]
      have : cs.getD (ts + M) 0 = 0 := by
        rw [List.getD_eq_getElem?_getD, List.getElem?_eq_none (by omega)]; rfl
      rw [this]; simp
theorem sumQ_ilP (rs : List Nat) (ts : Nat) (hts : 1 ≤ ts) : ilP (cntL rs) ts ((cntL rs).length - ts) = (sumQ ts rs : Int) := by
  have h1 := ilP_fold ts hts (cntL rs).length rs [] fun r hr => by have := (cnt_len_ge rs []).2 r hr; unfold cntL; omega
  rw [ilP_nil, Int.zero_add] at h1
  rw [← h1]
  exact (ilP_more _ ts _ (by omega)).symm
theorem il_lead (rs : List Nat) (tl ts : Nat) (hts : 1 ≤ ts) : ilF (cntL rs) tl rs.length ts = (colN ts rs tl : Int) := by
  unfold ilF colN
  rw [sumQ_ilP rs ts hts]
  push_cast
  rfl
end
end Mine

namespace Mine
section
open PySem PySem.W PyProof.Rows PySem.SeqAt
theorem cols_get (rs : List Nat) (tl k : Nat) (hk : k < 6) : (colsF 6 (leadCps rs tl)).getD k 0 = (colN (1 + k) rs tl : Int) := by
  unfold colsF
  rw [List.getD_eq_getElem?_getD, List.getElem?_map, List.getElem?_range hk]
  show colF (1 + (k : Int)) _ = _
  rw [← col_lead (1 + k) (by omega)]
  congr 1
theorem colLess_iff (rs rs' : List Nat) (tl tl' : Nat) : colLess (leadCps rs tl) (leadCps rs' tl') = true ↔ ∀ s, 1 ≤ s → s ≤ 6 → colN s rs tl < colN s rs' tl' := by
  unfold colLess
  rw [List.all_eq_true]
  constructor
  · intro h s h1 h6
    have := h _ (List.mem_map.mpr ⟨s - 1, List.mem_range.mpr (by omega), rfl⟩)
    simp only [id] at this
    rw [cols_get _ _ _ (by omega), cols_get _ _ _ (by omega)] at this
    have h2 := of_decide_eq_true this
    rw [show 1 + (s - 1) = s from by omega] at h2
    exact Int.ofNat_lt.mp h2
  · intro h x hx
    obtain ⟨k, hk, rfl⟩ := List.mem_map.mp hx
    have hk' := List.mem_range.mp hk
    simp only [id]
    rw [cols_get _ _ _ hk', cols_get _ _ _ hk']
    exact decide_eq_true (Int.ofNat_lt.mpr (h (1 + k) (by omega) (by omega)))
theorem sumQ_one (rs : List Nat) : sumQ 1 rs = rs.sum := by
  unfold sumQ
  congr 1
  conv => rhs; rw [← List.map_id rs]
  apply List.map_congr_left
  intro r _
  exact Nat.div_one r
theorem sumQ_zero {s : Nat} {rs : List Nat} (h : ∀ r ∈ rs, r < s) : sumQ s rs = 0 := by
  unfold sumQ
  induction rs with
  | nil => rfl
  | cons r rs ih =>
    rw [List.map_cons, List.sum_cons, Nat.div_eq_of_lt (h r (List.mem_cons_self ..)), ih fun x hx => h x (List.mem_cons_of_mem _ hx)]
theorem far {m s k k' tl tl' : Nat} (htl' : tl' ≤ m) (h0 : tl + (m + 1) * k < tl' + (m + 1) * k') (hs : m + 1 ≤ s) : tl + s * k < tl' + s * k' ∧ k ≤ k' := by
  have hk : k ≤ k' := by
    apply Nat.le_of_not_lt
    intro c
    have : (m + 1) * (k' + 1) ≤ (m + 1) * k := Nat.mul_le_mul_left _ c
    rw [Nat.mul_add] at this
    omega
  refine ⟨?_, hk⟩
  obtain ⟨d, rfl⟩ : ∃ d, s = (m + 1) + d := ⟨s - (m + 1), by omega⟩
  rw [Nat.add_mul (m + 1) d k, Nat.add_mul (m + 1) d k']
  have : d * k ≤ d * k' := Nat.mul_le_mul_left _ hk
  omega

theorem less_lead (rs rs' : List Nat) (tl tl' : Nat) (hr : ∀ r ∈ rs, r ≤ 5) (hr' : ∀ r ∈ rs', r ≤ 5) (ht : tl ≤ 5) (ht' : tl' ≤ 5) : lessL (leadCps rs tl) (leadCps rs' tl') = colLess (leadCps rs tl) (leadCps rs' tl') := by
  have hl := cnt_len_le hr [] (Nat.zero_le _)
  have hl' := cnt_len_le hr' [] (Nat.zero_le _)
  have hg := (cnt_len_ge rs []).2
  have hg' := (cnt_len_ge rs' []).2
  change (cntL rs).length ≤ 6 at hl
  change (cntL rs').length ≤ 6 at hl'
  change ∀ r ∈ rs, r + 1 ≤ (cntL rs).length at hg
  change ∀ r ∈ rs', r + 1 ≤ (cntL rs').length at hg'
  have c1 : ∀ (rs : List Nat) (tl : Nat), colN 1 rs tl = rs.sum + rs.length + tl := fun rs tl => by unfold colN; rw [sumQ_one]; omega
  have key : lessL (leadCps rs tl) (leadCps rs' tl') = true ↔ ∀ s, 1 ≤ s → s ≤ 6 → colN s rs tl < colN s rs' tl' := by
    unfold lessL
    rw [scan_lead, scan_lead]
    unfold lessF
    dsimp only
    by_cases hn : ((rs.sum + rs.length + tl : Nat) : Int) ≥ ((rs'.sum + rs'.length + tl' : Nat) : Int)
    · rw [if_pos hn]
      refine ⟨fun h => (by cases h), fun h => ?_⟩
      have := h 1 (by omega) (by omega)
      rw [c1, c1] at this
      omega
    · rw [if_neg hn]
      have hn1 : colN 1 rs tl < colN 1 rs' tl' := by rw [c1, c1]; omega
      by_cases hs : (cntL rs).length ≤ 1 ∧ (cntL rs').length ≤ 1
      · rw [if_pos hs]
        have z : ∀ s, 1 ≤ s → sumQ s rs = 0 := fun s h1 => sumQ_zero fun r h => by have := hg r h; omega
        have z' : ∀ s, 1 ≤ s → sumQ s rs' = 0 := fun s h1 => sumQ_zero fun r h => by have := hg' r h; omega
        rw [decide_eq_true_iff]
        constructor
        · intro hk s h1 h6
          have hk' : rs.length ≤ rs'.length := by omega
          unfold colN at hn1 ⊢
          rw [z 1 (by omega), z' 1 (by omega)] at hn1
          rw [z s h1, z' s h1]
          obtain ⟨d, rfl⟩ : ∃ d, s = 1 + d := ⟨s - 1, by omega⟩
          rw [Nat.add_mul 1 d (0 + rs.length), Nat.add_mul 1 d (0 + rs'.length)]
          have : d * (0 + rs.length) ≤ d * (0 + rs'.length) := Nat.mul_le_mul_left _ (by omega)
          omega
        · intro h
          have h6 := h 6 (by omega) (by omega)
          unfold colN at h6
          rw [z 6 (by omega), z' 6 (by omega)] at h6
          omega
      · rw [if_neg hs]
        obtain ⟨m, hm⟩ : ∃ m : Nat, (max (runF (cntL rs) tl) (runF (cntL rs') tl')).toNat = m := ⟨_, rfl⟩
        rw [hm]
        unfold runF at hm
        have m1 : ∀ r ∈ rs, r ≤ m := fun r h => by have := hg r h; omega
        have m2 : ∀ r ∈ rs', r ≤ m := fun r h => by have := hg' r h; omega
        have m3 : tl ≤ m := by omega
        have m4 : tl' ≤ m := by omega
        have m5 : m ≤ 5 := by omega
        rw [List.all_eq_true]
        constructor
        · intro h
          have hc : ∀ s, 1 ≤ s → s ≤ m + 1 → colN s rs tl < colN s rs' tl' := fun s h1 h2 => by
            by_cases e : s = 1
            · rw [e]; exact hn1
            · have := of_decide_eq_true (h (s - 2) (List.mem_range.mpr (by omega)))
              rw [show 2 + (s - 2) = s from by omega, il_lead _ _ _ (by omega), il_lead _ _ _ (by omega)] at this
              exact Int.ofNat_lt.mp this
          intro s h1 h6
          by_cases hsm : s ≤ m + 1
          · exact hc s h1 hsm
          · have h0 := hc (m + 1) (by omega) (Nat.le_refl _)
            unfold colN at h0 ⊢
            rw [sumQ_zero fun r h => Nat.lt_succ_of_le (m1 r h), sumQ_zero fun r h => Nat.lt_succ_of_le (m2 r h), Nat.zero_add, Nat.zero_add] at h0
            rw [sumQ_zero fun r h => by have := m1 r h; omega, sumQ_zero fun r h => by have := m2 r h; omega, Nat.zero_add, Nat.zero_add]
            exact (far m4 h0 (by omega)).1
        · intro h i hi
          have hi' := List.mem_range.mp hi
          rw [il_lead _ _ _ (by omega), il_lead _ _ _ (by omega)]
          exact decide_eq_true (Int.ofNat_lt.mpr (h (2 + i) (by omega) (by omega)))
  rw [Bool.eq_iff_iff, key, colLess_iff]
end
end Mine

namespace Mine
section
open PySem PySem.W PyProof.Rows PySem.SeqAt
def small : List (List Nat) := [] :: ((List.range 6).map fun a => [a]) ++ ((List.range 6).map fun a => (List.range 6).map fun b => [a, b]).flatten
theorem mem_small {rs : List Nat} (hl : rs.length ≤ 2) (h : ∀ r ∈ rs, r ≤ 5) : rs ∈ small := by
  unfold small
  match rs, hl, h with
  | [], _, _ => exact List.mem_append_left _ (List.mem_cons_self ..)
  | [a], _, h =>
    refine List.mem_append_left _ (List.mem_cons_of_mem _ (List.mem_map.mpr ⟨a, List.mem_range.mpr ?_, rfl⟩))
    have := h a (List.mem_cons_self ..); omega
  | [a, b], _, h =>
    refine List.mem_append_right _ (List.mem_flatten.mpr ⟨_, List.mem_map.mpr ⟨a, List.mem_range.mpr ?_, rfl⟩, List.mem_map.mpr ⟨b, List.mem_range.mpr ?_, rfl⟩⟩)
    · have := h a (List.mem_cons_self ..); omega
    · have := h b (List.mem_cons_of_mem _ (List.mem_cons_self ..)); omega
def sameQ (rs rs' : List Nat) : Bool := rs.length == rs'.length && (List.range 5).all fun s => sumQ (s + 1) rs == sumQ (s + 1) rs'
theorem small_ok : (small.all fun rs => small.all fun rs' => decide (cntL rs = cntL rs') == sameQ rs rs') = true := by decide +kernel
theorem cnt_iff {rs rs' : List Nat} (hl : rs.length ≤ 2) (h : ∀ r ∈ rs, r ≤ 5) (hl' : rs'.length ≤ 2) (h' : ∀ r ∈ rs', r ≤ 5) : cntL rs = cntL rs' ↔ sameQ rs rs' = true := by
  have := eq_of_beq (List.all_eq_true.mp (List.all_eq_true.mp small_ok rs (mem_small hl h)) rs' (mem_small hl' h'))
  rw [← this, decide_eq_true_iff]

theorem cols_iff (rs rs' : List Nat) (tl tl' : Nat) : colsF 6 (leadCps rs tl) = colsF 6 (leadCps rs' tl') ↔ ∀ s, 1 ≤ s → s ≤ 6 → colN s rs tl = colN s rs' tl' := by
  constructor
  · intro h s h1 h6
    have : (colsF 6 (leadCps rs tl)).getD (s - 1) 0 = (colsF 6 (leadCps rs' tl')).getD (s - 1) 0 := by rw [h]
    rw [cols_get _ _ _ (by omega), cols_get _ _ _ (by omega), show 1 + (s - 1) = s from by omega] at this
    exact Int.ofNat_inj.mp this
  · intro h
    unfold colsF
    apply List.map_congr_left
    intro k hk
    have hk' := List.mem_range.mp hk
    have e := h (1 + k) (by omega) (by omega)
    have a := col_lead (1 + k) (by omega) rs tl
    have a' := col_lead (1 + k) (by omega) rs' tl'
    rw [e] at a
    rw [show (1 : Int) + (k : Int) = ((1 + k : Nat) : Int) from by omega]
    exact a.trans a'.symm
theorem eq_lead (rs rs' : List Nat) (tl tl' : Nat) (hl : rs.length ≤ 2) (hl' : rs'.length ≤ 2) (hr : ∀ r ∈ rs, r ≤ 5) (hr' : ∀ r ∈ rs', r ≤ 5) (ht : tl ≤ 5) (ht' : tl' ≤ 5) :
    decide ((scan (leadCps rs tl)).cs = (scan (leadCps rs' tl')).cs ∧ ((scan (leadCps rs tl)).b : Int) = ((scan (leadCps rs' tl')).b : Int)) = decide (colsF 6 (leadCps rs tl) = colsF 6 (leadCps rs' tl')) := by
  rw [scan_lead, scan_lead]
  dsimp only
  apply decide_eq_decide.mpr
  rw [cols_iff, cnt_iff hl hr hl' hr']
  have z : sumQ 6 rs = 0 := sumQ_zero fun r h => by have := hr r h; omega
  have z' : sumQ 6 rs' = 0 := sumQ_zero fun r h => by have := hr' r h; omega
  unfold sameQ
  rw [Bool.and_eq_true, List.all_eq_true, beq_iff_eq]
  constructor
  · rintro ⟨⟨e1, e2⟩, e3⟩ s h1 h6
    have e3' : tl = tl' := Int.ofNat_inj.mp e3
    unfold colN
    by_cases c : s = 6
    · subst c; rw [z, z', e1, e3']
    · have := eq_of_beq (e2 (s - 1) (List.mem_range.mpr (by omega)))
      rw [show s - 1 + 1 = s from by omega] at this
      rw [this, e1, e3']
  · intro h
    have h6 := h 6 (by omega) (by omega)
    unfold colN at h6
    rw [z, z'] at h6
    have e1 : rs.length = rs'.length := by omega
    have e3 : tl = tl' := by omega
    refine ⟨⟨e1, fun s hs => ?_⟩, by rw [e3]⟩
    have hs' := List.mem_range.mp hs
    have hh := h (s + 1) (by omega) (by omega)
    unfold colN at hh
    rw [e3, e1] at hh
    have h2 := Nat.add_left_cancel hh
    have h3 := Nat.eq_of_mul_eq_mul_left (Nat.succ_pos s) h2
    exact beq_iff_eq.mpr (Nat.add_right_cancel h3)
end
end Mine

namespace Mine
section
open PySem PySem.W PyProof.Rows PySem.SeqAt
theorem rowU_get {ls : List (List Nat)} {k : Nat} (hk : k < 5) : (rowsU ls).getD k [] = fullU ls 5 k := by unfold rowsU; simp [List.getD_eq_getElem?_getD, hk]
theorem rowO_get {ls : List (List Nat)} {k : Nat} (hk : k < 5) : (rowsO ls).getD k [] = fullO ls 5 k := by unfold rowsO; simp [List.getD_eq_getElem?_getD, hk]
theorem allU {ls : List (List Nat)} {k : Nat} (hk : k < 5) (f : Nat → Bool) : (((rowsU ls).getD k []).map fun j => f j).all id = true ↔ ∀ x, x < 5 → tld ls x k = true → f x = true := by
  rw [rowU_get hk, List.all_eq_true]
  unfold fullU
  constructor
  · intro h x hx ht
    exact h _ (List.mem_map.mpr ⟨x, List.mem_filter.mpr ⟨List.mem_range.mpr hx, ht⟩, rfl⟩)
  · intro h y hy
    obtain ⟨x, hx, rfl⟩ := List.mem_map.mp hy
    obtain ⟨h1, h2⟩ := List.mem_filter.mp hx
    exact h x (List.mem_range.mp h1) h2
theorem anyO {ls : List (List Nat)} {k : Nat} (hk : k < 5) (f : Nat → Bool) : (((rowsO ls).getD k []).map fun j => f j).any id = true ↔ ∃ y, y < 5 ∧ tld ls k y = true ∧ f y = true := by
  rw [rowO_get hk, List.any_eq_true]
  unfold fullO
  constructor
  · rintro ⟨b, hb, e⟩
    obtain ⟨y, hy, rfl⟩ := List.mem_map.mp hb
    obtain ⟨h1, h2⟩ := List.mem_filter.mp hy
    exact ⟨y, List.mem_range.mp h1, h2, e⟩
  · rintro ⟨y, h1, h2, h3⟩
    exact ⟨f y, List.mem_map.mpr ⟨y, List.mem_filter.mpr ⟨List.mem_range.mpr h1, h2⟩, rfl⟩, h3⟩

section
variable {ls : List (List Nat)}
def OutF (ls : List (List Nat)) (F : Nat → Bool) (k : Nat) : Prop := F k = false ∧ ∀ x, x < 5 → tld ls x k = true → F x = true

theorem turn_inv (key : Nat → Int) (hkey : ∀ x y, x < 5 → y < 5 → tld ls x y = true → key x < key y) (htr : ∀ x y z, x < 5 → y < 5 → z < 5 → tld ls x y = true → tld ls y z = true → tld ls x z = true)
    (F R : Nat → Bool) (hF : ∀ k, k < 5 → F k = true → ∀ x, x < 5 → tld ls x k = true → F x = true) (hR : ∀ k, k < 5 → (R k = true ↔ (OutF ls F k ∨ ∃ y, y < 5 ∧ tld ls k y = true ∧ OutF ls F y))) :
    ∀ (rest P : List Nat) (cur : List Bool), (P ++ rest).Perm (List.range 5) → (P ++ rest).Pairwise (fun a b => key b ≤ key a) → cur.length = 5 → (∀ k, k < 5 → cur.getD k false = if k ∈ P then R k else F k) →
      ∀ k, k < 5 → (turnF (rowsU ls) (rowsO ls) rest cur).getD k false = R k
  | [], P, cur, hp, _, _, hc, k, hk => by
    rw [List.append_nil] at hp
    have := hc k hk
    rw [if_pos (hp.mem_iff.mpr (List.mem_range.mpr hk))] at this
    exact this
  | k :: rest, P, cur, hp, hs, hl, hc, j, hj => by
    have hk : k < 5 := List.mem_range.mp (hp.mem_iff.mp (List.mem_append_right _ (List.mem_cons_self ..)))
    have hnd : (P ++ k :: rest).Nodup := hp.nodup_iff.mpr List.nodup_range
    have hkP : k ∉ P := fun h => (List.nodup_append.mp hnd).2.2 k h k (List.mem_cons_self ..) rfl
    obtain ⟨s1, s2, s3⟩ := List.pairwise_append.mp hs
    have hU : ∀ x, x < 5 → tld ls x k = true → cur.getD x false = F x := fun x hx ht => by
      rw [hc x hx, if_neg fun h => ?_]
      have a := s3 x h k (List.mem_cons_self ..)
      have b := hkey x k hx hk ht
      omega
    have hO : ∀ y, y < 5 → tld ls k y = true → cur.getD y false = R y := fun y hy ht => by
      have b := hkey k y hk hy ht
      rw [hc y hy, if_pos ?_]
      rcases List.mem_append.mp (hp.mem_iff.mpr (List.mem_range.mpr hy)) with h | h
      · exact h
      · rcases List.mem_cons.mp h with e | h
        · rw [e] at b; omega
        · have := (List.pairwise_cons.mp s2).1 y h; omega
    have hkk : cur.getD k false = F k := by rw [hc k hk, if_neg hkP]
    show (turnF (rowsU ls) (rowsO ls) rest (togg (rowsU ls) (rowsO ls) cur k)).getD j false = R j
    refine turn_inv key hkey htr F R hF hR rest (P ++ [k]) _ (by simpa using hp) (by simpa using hs) (by rw [togg_len, hl]) (fun i hi => ?_) j hj
    have hset : ∀ v : Bool, (cur.set k v).getD i false = if i = k then v else cur.getD i false := fun v => by
      rw [List.getD_eq_getElem?_getD, List.getElem?_set]
      by_cases e : k = i
      · subst e; rw [if_pos rfl, if_pos (by omega), if_pos rfl]; rfl
      · rw [if_neg e, if_neg (fun c => e c.symm), List.getD_eq_getElem?_getD]
    by_cases hik : i = k
    · subst hik
      rw [if_pos (List.mem_append_right _ (List.mem_singleton.mpr rfl))]
      have A : (((rowsU ls).getD i []).map fun j => cur.getD j false).all id = true ↔ ∀ x, x < 5 → tld ls x i = true → F x = true := by
        rw [allU hk]
        exact ⟨fun h x hx ht => hU x hx ht ▸ h x hx ht, fun h x hx ht => (hU x hx ht).trans (h x hx ht)⟩
      have B : (((rowsO ls).getD i []).map fun j => cur.getD j false).any id = true ↔ ∃ y, y < 5 ∧ tld ls i y = true ∧ R y = true := by
        rw [anyO hk]
        exact ⟨fun ⟨y, a, b, c⟩ => ⟨y, a, b, hO y a b ▸ c⟩, fun ⟨y, a, b, c⟩ => ⟨y, a, b, (hO y a b).trans c⟩⟩
      have up : (∃ y, y < 5 ∧ tld ls i y = true ∧ R y = true) → ∃ z, z < 5 ∧ tld ls i z = true ∧ OutF ls F z := fun ⟨y, a, b, c⟩ => by
        rcases (hR y a).mp c with h | ⟨z, z1, z2, z3⟩
        · exact ⟨y, a, b, h⟩
        · exact ⟨z, z1, htr i y z hk a z1 b z2, z3⟩
      have dn : (∃ z, z < 5 ∧ tld ls i z = true ∧ OutF ls F z) → ∃ y, y < 5 ∧ tld ls i y = true ∧ R y = true := fun ⟨z, a, b, c⟩ => ⟨z, a, b, (hR z a).mpr (.inl c)⟩
      unfold togg
      by_cases cond : ((((rowsU ls).getD i []).map fun j => cur.getD j false).all id && !(((rowsO ls).getD i []).map fun j => cur.getD j false).any id) = true
      · rw [if_pos cond, hset, if_pos rfl, hkk]
        rw [Bool.and_eq_true, Bool.not_eq_true', ← Bool.not_eq_true] at cond
        have a := A.mp cond.1
        have nb : ¬ ∃ y, y < 5 ∧ tld ls i y = true ∧ R y = true := fun h => cond.2 (B.mpr h)
        cases hf : F i with
        | true =>
          cases hr : R i with
          | false => rfl
          | true =>
            rcases (hR i hk).mp hr with h | h
            · rw [h.1] at hf; cases hf
            · exact absurd (dn h) nb
        | false => exact ((hR i hk).mpr (.inl ⟨hf, a⟩)).symm
      · rw [if_neg cond, hkk]
        cases hf : F i with
        | false =>
          cases hr : R i with
          | false => rfl
          | true =>
            exfalso
            apply cond
            rw [Bool.and_eq_true, Bool.not_eq_true', ← Bool.not_eq_true]
            rcases (hR i hk).mp hr with h | ⟨z, z1, z2, z3⟩
            · refine ⟨A.mpr h.2, fun hb => ?_⟩
              obtain ⟨z, z1, z2, z3⟩ := up (B.mp hb)
              have := z3.2 i hk z2
              rw [hf] at this; cases this
            · have := z3.2 i hk z2
              rw [hf] at this; cases this
        | true =>
          cases hr : R i with
          | true => rfl
          | false =>
            exfalso
            apply cond
            rw [Bool.and_eq_true, Bool.not_eq_true', ← Bool.not_eq_true]
            refine ⟨A.mpr (hF i hk hf), fun hb => ?_⟩
            have := (hR i hk).mpr (.inr (up (B.mp hb)))
            rw [hr] at this; cases this
    · have e1 : (togg (rowsU ls) (rowsO ls) cur k).getD i false = cur.getD i false := by
        unfold togg
        split
        · rw [hset, if_neg hik]
        · rfl
      rw [e1, hc i hi]
      by_cases hP : i ∈ P
      · rw [if_pos hP, if_pos (List.mem_append_left _ hP)]
      · rw [if_neg hP, if_neg fun h => (List.mem_append.mp h).elim hP fun h => hik (List.mem_singleton.mp h)]

theorem build_inv (d : Int) (key : Nat → Int) (hkey : ∀ x y, x < 5 → y < 5 → tld ls x y = true → key x < key y) :
    ∀ (rest P : List Nat) (cur : List Bool), (P ++ rest).Perm (List.range 5) → (P ++ rest).Pairwise (fun a b => key a ≤ key b) → cur.length = 5 →
      (∀ k, k ∈ P → cur.getD k false = true → ∀ x, x < 5 → tld ls x k = true → cur.getD x false = true) →
      ∀ k, k < 5 → (rest.foldl (build d (rowsU ls)) cur).getD k false = true → ∀ x, x < 5 → tld ls x k = true → (rest.foldl (build d (rowsU ls)) cur).getD x false = true
  | [], P, cur, hp, _, _, hc, k, hk => by
    rw [List.append_nil] at hp
    exact hc k (hp.mem_iff.mpr (List.mem_range.mpr hk))
  | k :: rest, P, cur, hp, hs, hl, hc, j, hj => by
    have hk : k < 5 := List.mem_range.mp (hp.mem_iff.mp (List.mem_append_right _ (List.mem_cons_self ..)))
    have hnd : (P ++ k :: rest).Nodup := hp.nodup_iff.mpr List.nodup_range
    have hkP : k ∉ P := fun h => (List.nodup_append.mp hnd).2.2 k h k (List.mem_cons_self ..) rfl
    obtain ⟨s1, s2, s3⟩ := List.pairwise_append.mp hs
    rw [List.foldl_cons]
    have hset : ∀ (i : Nat) (v : Bool), (cur.set k v).getD i false = if i = k then v else cur.getD i false := fun i v => by
      rw [List.getD_eq_getElem?_getD, List.getElem?_set]
      by_cases e : k = i
      · subst e; rw [if_pos rfl, if_pos (by omega), if_pos rfl]; rfl
      · rw [if_neg e, if_neg (fun c => e c.symm), List.getD_eq_getElem?_getD]
    refine build_inv d key hkey rest (P ++ [k]) _ (by simpa using hp) (by simpa using hs) (by rw [build_len, hl]) (fun i hi ht x hx hxi => ?_) j hj
    unfold build at ht ⊢
    rw [hset] at ht ⊢
    by_cases hik : i = k
    · subst hik
      rw [if_pos rfl, Bool.and_eq_true] at ht
      have hxk : x ≠ i := fun e => by have := hkey x i hx hk hxi; rw [e] at this; omega
      rw [if_neg hxk]
      exact (allU hk _).mp ht.2 x hx hxi
    · rw [if_neg hik] at ht
      have hiP : i ∈ P := (List.mem_append.mp hi).elim id fun h => absurd (List.mem_singleton.mp h) hik
      have hi5 : i < 5 := List.mem_range.mp (hp.mem_iff.mp (List.mem_append_left _ hiP))
      have hxk : x ≠ k := fun e => by
        have a := hkey x i hx hi5 hxi
        have b := s3 i hiP k (List.mem_cons_self ..)
        rw [e] at a; omega
      rw [if_neg hxk]
      exact hc i hiP ht x hx hxi
end
end
end Mine

namespace Mine
section
open PySem PySem.W PyProof.Rows PySem.SeqAt
theorem colLess_at {l l' : List Nat} (h : colLess l l' = true) (k : Nat) (hk : k < 6) : (colsF 6 l).getD k 0 < (colsF 6 l').getD k 0 := by
  unfold colLess at h
  rw [List.all_eq_true] at h
  exact of_decide_eq_true (h _ (List.mem_map.mpr ⟨k, List.mem_range.mpr hk, rfl⟩))
theorem colLess_of {l l' : List Nat} (h : ∀ k, k < 6 → (colsF 6 l).getD k 0 < (colsF 6 l').getD k 0) : colLess l l' = true := by
  unfold colLess
  rw [List.all_eq_true]
  intro x hx
  obtain ⟨k, hk, rfl⟩ := List.mem_map.mp hx
  exact decide_eq_true (h k (List.mem_range.mp hk))
theorem getD_mem {ls : List (List Nat)} (h5 : ls.length = 5) {i : Nat} (hi : i < 5) : ls.getD i [] ∈ ls := by
  rw [List.getD_eq_getElem?_getD, List.getElem?_eq_getElem (by omega)]; exact List.getElem_mem _
theorem ext5 {a b : List Bool} (ha : a.length = 5) (hb : b.length = 5) (h : ∀ k, k < 5 → a.getD k false = b.getD k false) : a = b := by
  apply List.ext_getElem (ha.trans hb.symm)
  intro i h1 h2
  have := h i (by omega)
  rw [List.getD_eq_getElem?_getD, List.getD_eq_getElem?_getD, List.getElem?_eq_getElem h1, List.getElem?_eq_getElem h2] at this
  exact this

theorem law_ok (ls : List (List Nat)) (h5 : ls.length = 5) (hI : ∀ l ∈ ls, IsLead l) : LawOK ls := by
  refine ⟨fun i j hi hj => ?_, fun i j hi hj => ?_, fun d m0 p0 s0 ts ns h1 h6 pn sn => ?_⟩
  · obtain ⟨rs, tl, e, a, b, c⟩ := hI _ (getD_mem h5 hi)
    obtain ⟨rs', tl', e', a', b', c'⟩ := hI _ (getD_mem h5 hj)
    unfold tld
    rw [e, e']
    exact less_lead rs rs' tl tl' b b' c c'
  · obtain ⟨rs, tl, e, a, b, c⟩ := hI _ (getD_mem h5 hi)
    obtain ⟨rs', tl', e', a', b', c'⟩ := hI _ (getD_mem h5 hj)
    rw [e, e']
    exact eq_lead rs rs' tl tl' a a' b b' c c'
  · have htr : ∀ x y z, x < 5 → y < 5 → z < 5 → tld ls x y = true → tld ls y z = true → tld ls x z = true := fun x y z _ _ _ a b => by
      unfold tld at *
      exact colLess_of fun k hk => Int.lt_trans (colLess_at a k hk) (colLess_at b k hk)
    have hk0 : ∀ x y, x < 5 → y < 5 → tld ls x y = true → (key0 ls).getD x 0 < (key0 ls).getD y 0 := fun x y hx hy h => by
      unfold tld at h
      have e : ∀ x, x < 5 → (key0 ls).getD x 0 = (colsF 6 (ls.getD x [])).getD 0 0 := fun x hx => by
        unfold key0
        rw [List.getD_eq_getElem?_getD, List.getElem?_map, List.getElem?_range hx]; rfl
      rw [e x hx, e y hy]
      exact colLess_at h 0 (by omega)
    have hkS : ∀ x y, x < 5 → y < 5 → tld ls x y = true → (keyS ls ts).getD x 0 < (keyS ls ts).getD y 0 := fun x y hx hy h => by
      unfold tld at h
      have e : ∀ x, x < 5 → (keyS ls ts).getD x 0 = (colsF 6 (ls.getD x [])).getD (ts - 1) 0 := fun x hx => by
        unfold keyS
        rw [List.getD_eq_getElem?_getD, List.getElem?_map, List.getElem?_range hx]
        obtain ⟨rs, tl, e, a, b, c⟩ := hI _ (getD_mem h5 hx)
        show ilF _ _ _ ts = _
        rw [e, scan_lead, cols_get _ _ _ (by omega)]
        rw [show 1 + (ts - 1) = ts from by omega]
        exact il_lead rs tl ts h1
      rw [e x hx, e y hy]
      exact colLess_at h (ts - 1) (by omega)
    generalize hbs : buildAll d (rowsU ls) m0 = bs
    have hbl : bs.length = 5 := by rw [← hbs]; exact buildAll_len
    have hF : ∀ k, k < 5 → bs.getD k false = true → ∀ x, x < 5 → tld ls x k = true → bs.getD x false = true := by
      rw [← hbs]
      exact build_inv d (fun x => (key0 ls).getD x 0) hk0 m0 [] _ (by simpa using p0) (by simpa using s0) (by simp) (fun k hk => by cases hk)
    have hout : ∀ k, k < 5 → ((outs (rowsU ls) bs 5).any (· == k) = true ↔ OutF ls (fun k => bs.getD k false) k) := fun k hk => by
      rw [List.any_eq_true]
      unfold outs OutF
      constructor
      · rintro ⟨x, hx, e⟩
        have e' : x = k := eq_of_beq e
        subst e'
        have := (List.mem_filter.mp hx).2
        unfold outP at this
        rw [Bool.and_eq_true, Bool.not_eq_true'] at this
        exact ⟨this.1, (allU hk _).mp this.2⟩
      · rintro ⟨a, b⟩
        refine ⟨k, List.mem_filter.mpr ⟨List.mem_range.mpr hk, ?_⟩, beq_self_eq_true _⟩
        unfold outP
        rw [Bool.and_eq_true, Bool.not_eq_true']
        exact ⟨a, (allU hk _).mpr b⟩
    have hR : ∀ k, k < 5 → ((dues (rowsO ls) (outs (rowsU ls) bs 5)).getD k false = true ↔ (OutF ls (fun k => bs.getD k false) k ∨ ∃ y, y < 5 ∧ tld ls k y = true ∧ OutF ls (fun k => bs.getD k false) y)) := fun k hk => by
      have e : (dues (rowsO ls) (outs (rowsU ls) bs 5)).getD k false = dueP (rowsO ls) (outs (rowsU ls) bs 5) k := by
        unfold dues
        rw [List.getD_eq_getElem?_getD, List.getElem?_map, List.getElem?_range hk]; rfl
      rw [e]
      unfold dueP
      rw [Bool.or_eq_true, hout k hk, anyO hk]
      exact or_congr Iff.rfl ⟨fun ⟨y, a, b, c⟩ => ⟨y, a, b, (hout y a).mp c⟩, fun ⟨y, a, b, c⟩ => ⟨y, a, b, (hout y a).mpr c⟩⟩
    refine ext5 (by rw [turnF_len, hbl]) (by simp [dues]) fun k hk => ?_
    refine turn_inv (fun x => (keyS ls ts).getD x 0) hkS htr (fun k => bs.getD k false) (fun k => (dues (rowsO ls) (outs (rowsU ls) bs 5)).getD k false) hF hR ns.reverse [] bs ?_ ?_ hbl (fun k _ => by rw [if_neg (by simp)]) k hk
    · simpa using (List.reverse_perm ns).trans pn
    · rw [List.nil_append, List.pairwise_reverse]; exact sn
end
end Mine

set_option maxRecDepth 100000 in
set_option maxHeartbeats 8000000 in
theorem PySem.Challenge.cw_rs0251_01_holds : PySem.Challenge.rw_rs0251_01.Holds := by
  exact Mine.fin Mine.law_ok
