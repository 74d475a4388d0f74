import PyProof.Rows.All
import Wide.All
import OpenK.AllK
import Wide.FinOn
import Lean
import PySem.Challenge.RW_bp0001_01
set_option Elab.async false

-- part Top1
namespace Mine
open PySem PySem.W PyProof.Rows
set_option maxRecDepth 100000
set_option maxHeartbeats 8000000
open_top hd for PySem.Challenge.rw_bp0001_01
end Mine

-- part Spec
namespace Mine
open PySem
/-- the whole number that groups of f bits, laid side by side, make -/
def bigV (f : Nat) (ns : List Int) : Int := ns.foldl (fun a v => a * 2 ^ f + v) 0
/-- the first q digits of t bits of V, a number of T bits -/
def digs (t : Nat) (V : Int) (T q : Nat) : List Int := (List.range q).map fun j => V / 2 ^ (T - t * (j + 1)) % 2 ^ t
abbrev Fits (f : Nat) (ns : List Int) : Prop := ∀ v ∈ ns, 0 ≤ v ∧ v < 2 ^ f
/-- what convertbits computes -/
def convN (ns : List Int) (f t : Nat) (pad : Bool) : Option (List Int) :=
  let T := f * ns.length
  let V := bigV f ns
  let b := T % t
  if Fits f ns then
    if pad then
      if b = 0 then some (digs t V T (T / t)) else some (digs t V T (T / t) ++ [V * 2 ^ (t - b) % 2 ^ t])
    else if f ≤ b ∨ V * 2 ^ (t - b) % 2 ^ t ≠ 0 then none else some (digs t V T (T / t))
  else none
def conv (ns : List Int) (fb tb : Int) (pad : Bool) : Option (List Int) := convN ns fb.toNat tb.toNat pad
end Mine

-- part P1
namespace Mine
open PySem PySem.W PyProof.Rows
theorem p2 (k : Nat) : (0 : Int) < 2 ^ k := kbt_pos k
theorem dd (x : Int) (a b : Nat) : x / 2 ^ a / 2 ^ b = x / 2 ^ (a + b) := by
  rw [Int.pow_add, Int.ediv_ediv_of_nonneg (Int.le_of_lt (p2 a))]
theorem sh_div {x r : Int} {a : Nat} (h0 : 0 ≤ r) (h1 : r < 2 ^ a) : (x * 2 ^ a + r) / 2 ^ a = x := by
  rw [Int.add_comm, Int.add_mul_ediv_right _ _ (Int.ne_of_gt (p2 a)), Int.ediv_eq_zero_of_lt h0 h1, Int.zero_add]
theorem sh_mod {x r : Int} {a : Nat} (h0 : 0 ≤ r) (h1 : r < 2 ^ a) : (x * 2 ^ a + r) % 2 ^ a = r := by
  rw [Int.add_comm, Int.add_mul_emod_self_right, Int.emod_eq_of_lt h0 h1]
theorem dvd2 {a b : Nat} (h : a ≤ b) : (2 : Int) ^ a ∣ 2 ^ b := ⟨2 ^ (b - a), by rw [← Int.pow_add]; congr 1; omega⟩
theorem mod_div (x : Int) {a e t : Nat} (h : e + t ≤ a) : x % 2 ^ a / 2 ^ e % 2 ^ t = x / 2 ^ e % 2 ^ t := by
  have h1 : x % 2 ^ a = x + (-(x / 2 ^ a) * 2 ^ (a - e - t) * 2 ^ t) * 2 ^ e := by
    rw [Int.mul_assoc, Int.mul_assoc, ← Int.pow_add, ← Int.pow_add, show a - e - t + (t + e) = a by omega, Int.emod_def, Int.neg_mul, Int.mul_comm]
    omega
  rw [h1, Int.add_mul_ediv_right _ _ (Int.ne_of_gt (p2 e)), Int.add_mul_emod_self_right]
theorem mul_mod (x : Int) {a c t : Nat} (h : t ≤ a) : x % 2 ^ a * 2 ^ c % 2 ^ t = x * 2 ^ c % 2 ^ t := by
  rw [Int.mul_emod, Int.emod_emod_of_dvd _ (dvd2 h), ← Int.mul_emod]

theorem bigV_snoc (f : Nat) (pre : List Int) (n : Int) : bigV f (pre ++ [n]) = bigV f pre * 2 ^ f + n := by
  unfold bigV
  rw [List.foldl_append]
  rfl
theorem fits_snoc {f : Nat} {pre : List Int} {n : Int} : Fits f (pre ++ [n]) ↔ Fits f pre ∧ 0 ≤ n ∧ n < 2 ^ f := by
  unfold Fits
  constructor
  · intro h
    exact ⟨fun v hv => h v (List.mem_append_left _ hv), h n (by simp)⟩
  · rintro ⟨h1, h2⟩ v hv
    rcases List.mem_append.mp hv with hv | hv
    · exact h1 v hv
    · rw [List.mem_singleton.mp hv]
      exact h2
theorem snoc_ind {P : List Int → Prop} (h0 : P []) (h1 : ∀ l n, P l → P (l ++ [n])) (l : List Int) : P l := by
  have : ∀ m : List Int, P m.reverse := by
    intro m
    induction m with
    | nil => exact h0
    | cons a r ih => rw [List.reverse_cons]; exact h1 _ _ ih
  have := this l.reverse
  rwa [List.reverse_reverse] at this
theorem bigV_bound {f : Nat} (ns : List Int) : Fits f ns → 0 ≤ bigV f ns ∧ bigV f ns < 2 ^ (f * ns.length) := by
  induction ns using snoc_ind with
  | h0 => intro _; simp [bigV]
  | h1 l n ih =>
    intro h
    obtain ⟨hl, hn0, hn1⟩ := fits_snoc.mp h
    obtain ⟨i0, i1⟩ := ih hl
    rw [bigV_snoc, List.length_append, List.length_singleton, Nat.mul_add, Nat.mul_one, Int.pow_add]
    have hp := p2 f
    constructor
    · have := Int.mul_nonneg i0 (Int.le_of_lt hp)
      omega
    · have : (bigV f l + 1) * 2 ^ f ≤ 2 ^ (f * l.length) * 2 ^ f := Int.mul_le_mul_of_nonneg_right (by omega) (Int.le_of_lt hp)
      rw [Int.add_mul, Int.one_mul] at this
      omega

theorem digs_succ (t : Nat) (V : Int) (T q : Nat) : digs t V T (q + 1) = digs t V T q ++ [V / 2 ^ (T - t * (q + 1)) % 2 ^ t] := by
  unfold digs
  rw [List.range_succ, List.map_append]
  rfl
theorem digs_len (t : Nat) (V : Int) (T q : Nat) : (digs t V T q).length = q := by simp [digs]
theorem digs_congr {t : Nat} {V V' : Int} {T T' q : Nat} (h : ∀ j, j < q → V / 2 ^ (T - t * (j + 1)) % 2 ^ t = V' / 2 ^ (T' - t * (j + 1)) % 2 ^ t) : digs t V T q = digs t V' T' q := by
  unfold digs
  refine List.map_congr_left fun j hj => h j (List.mem_range.mp hj)
theorem le_of_dig {t j q T : Nat} (hj : j < q) (h : t * q ≤ T) : t * (j + 1) ≤ T := Nat.le_trans (Nat.mul_le_mul_left t hj) h
/-- a digit further to the left does not see what is laid on at the right -/
theorem digs_on {t : Nat} {V r : Int} {T q a : Nat} (h0 : 0 ≤ r) (h1 : r < 2 ^ a) (hq : t * q ≤ T) : digs t (V * 2 ^ a + r) (T + a) q = digs t V T q := by
  refine digs_congr fun j hj => ?_
  have hle := le_of_dig hj hq
  rw [show T + a - t * (j + 1) = a + (T - t * (j + 1)) by omega, ← dd, sh_div h0 h1]
theorem digs_up {t : Nat} {V : Int} {T q a : Nat} (hq : t * q ≤ T) : digs t (V * 2 ^ a) (T + a) q = digs t V T q := by
  have := digs_on (t := t) (V := V) (r := 0) (T := T) (q := q) (a := a) (by decide) (p2 a) hq
  rwa [Int.add_zero] at this
theorem digs_self {f : Nat} (G : List Int) : Fits f G → digs f (bigV f G) (f * G.length) G.length = G := by
  induction G using snoc_ind with
  | h0 => intro _; rfl
  | h1 l n ih =>
    intro h
    obtain ⟨hl, hn0, hn1⟩ := fits_snoc.mp h
    rw [List.length_append, List.length_singleton, digs_succ, bigV_snoc, show f * (l.length + 1) = f * l.length + f by rw [Nat.mul_add, Nat.mul_one], digs_on hn0 hn1 (Nat.le_refl _), ih hl, Nat.sub_self, Int.pow_zero, Int.ediv_one, sh_mod hn0 hn1]
theorem digs_fits (t : Nat) (V : Int) (T q : Nat) : Fits t (digs t V T q) := by
  intro v hv
  obtain ⟨j, _, rfl⟩ := List.mem_map.mp hv
  exact ⟨Int.emod_nonneg _ (Int.ne_of_gt (p2 t)), Int.emod_lt_of_pos _ (p2 t)⟩
theorem bigV_digs {t : Nat} : ∀ (q : Nat) (V : Int), 0 ≤ V → V < 2 ^ (t * q) → bigV t (digs t V (t * q) q) = V
  | 0, V, h0, h1 => by
    rw [Nat.mul_zero, Int.pow_zero] at h1
    have : V = 0 := by omega
    subst this
    rfl
  | q + 1, V, h0, h1 => by
    have e : digs t V (t * (q + 1)) q = digs t (V / 2 ^ t) (t * q) q := by
      refine digs_congr fun j hj => ?_
      have hle := le_of_dig hj (Nat.le_refl (t * q))
      rw [dd, show t + (t * q - t * (j + 1)) = t * (q + 1) - t * (j + 1) by rw [Nat.mul_add t q 1]; omega]
    rw [digs_succ, bigV_snoc, e, Nat.sub_self, Int.pow_zero, Int.ediv_one]
    have hlt : V / 2 ^ t < 2 ^ (t * q) := by
      refine Int.ediv_lt_of_lt_mul (p2 t) ?_
      rw [← Int.pow_add]
      rwa [Nat.mul_add, Nat.mul_one] at h1
    rw [bigV_digs q (V / 2 ^ t) (Int.ediv_nonneg h0 (Int.le_of_lt (p2 t))) hlt]
    have := Int.emod_add_mul_ediv V (2 ^ t)
    rw [Int.mul_comm] at this
    omega

theorem or_add {a n : Int} {f : Nat} (ha : 0 ≤ a) (h0 : 0 ≤ n) (h1 : n < 2 ^ f) : Builtin.bitOr (a * 2 ^ f) n = a * 2 ^ f + n := by
  have hp : 0 ≤ a * 2 ^ f := Int.mul_nonneg ha (Int.le_of_lt (p2 f))
  rw [bitOr_and, bitAnd_pp hp h0]
  have e1 : (a * 2 ^ f).toNat = 2 ^ f * a.toNat := by
    have : ((2 ^ f * a.toNat : Nat) : Int) = a * 2 ^ f := by rw [Int.natCast_mul, kbt_cast, Int.toNat_of_nonneg ha, Int.mul_comm]
    omega
  have e2 : n.toNat < 2 ^ f := by
    have := kbt_cast f
    omega
  have e3 := Nat.two_pow_add_eq_or_of_lt e2 a.toNat
  have e4 := nat_or_add_and (2 ^ f * a.toNat) n.toNat
  rw [e1]
  omega
end Mine

-- part L2
namespace Mine
open PySem PySem.W PyProof.Rows PySem.Calls PySem.Spec
set_option maxRecDepth 100000
set_option maxHeartbeats 1000000
theorem calm_L2 : True := by
  w_top off
  exact trivial

theorem ints_append {vs ws : List Value} {ns ms : List Int} (h : IntsAre vs ns) (k : IntsAre ws ms) : IntsAre (vs ++ ws) (ns ++ ms) := by
  induction h with
  | nil => exact k
  | cons n t _ ih => exact .cons n t ih

section
variable {prog : Program} {w : World} {A : Around} {E : Value → Shared → Prop} {R : Result → Shared → Prop} {s : Shared}

theorem compTurn2_0 (elt t0 i0 t1 i1 : Expr) (scope : Scope) (pos : Pos) (it acc : Value) (env : Env) :
    compTurn (.ListComp elt [⟨t0, i0, [], 0⟩, ⟨t1, i1, [], 0⟩] scope pos) 0 it acc env = (do
      standAt i0.pos
      match ← pyNext it with
      | none => pure (.done .next)
      | some v =>
        letOwnedTupleGo t0 it v
        assign t0 env v
        let x ← eval i1 env
        standAt i1.pos
        let x ← foldedSetIterable i1 env x
        let it' ← holding [x] (pyIter x)
        let _ ← runOwn (.compStart (.ListComp elt [⟨t0, i0, [], 0⟩, ⟨t1, i1, [], 0⟩] scope pos) 1 it' acc env) env
        again (.compLoop (.ListComp elt [⟨t0, i0, [], 0⟩, ⟨t1, i1, [], 0⟩] scope pos) 0 it acc env)) := by rfl

theorem compTurn2_1 (elt t0 i0 t1 i1 : Expr) (scope : Scope) (pos : Pos) (it acc : Value) (env : Env) :
    compTurn (.ListComp elt [⟨t0, i0, [], 0⟩, ⟨t1, i1, [], 0⟩] scope pos) 1 it acc env = (do
      standAt i1.pos
      match ← pyNext it with
      | none => pure (.done .next)
      | some v =>
        letOwnedTupleGo t1 it v
        assign t1 env v
        (do let _ ← call (.builtin "list.append") [acc, ← eval elt env])
        again (.compLoop (.ListComp elt [⟨t0, i0, [], 0⟩, ⟨t1, i1, [], 0⟩] scope pos) 1 it acc env)) := by rfl

theorem loop2_1 {elt t0 i0 t1 i1 : Expr} {scope : Scope} {pos : Pos} {it acc : Value} {env : Env} (I : Nat → Shared → Prop)
    (turn : ∀ n s, I n s → wpAny (model prog w) A (pyNext it) (fun r s₁ => match r with
      | none => R (.ok .next) s₁
      | some v => wpAny (model prog w) A (assign t1 env v) (fun _ s₂ => wpAny (model prog w) A (eval elt env) (fun x s₄ =>
              wpAny (model prog w) A (call (.builtin "list.append") [acc, x]) (fun _ s₅ => ∃ m, m < n ∧ I m s₅) (notedBy (model prog w) A env fun e s' => R (.error e) s') s₄) (notedBy (model prog w) A env fun e s' => R (.error e) s') s₂) (notedBy (model prog w) A env fun e s' => R (.error e) s') s₁) (notedBy (model prog w) A env fun e s' => R (.error e) s') s)
    (n : Nat) (h : I n s) (ht : ∀ v, letOwnedTupleGo t1 it v = pure () := by intro _; rfl) :
    codeAny (model prog w) A (.compLoop (.ListComp elt [⟨t0, i0, [], 0⟩, ⟨t1, i1, [], 0⟩] scope pos) 1 it acc env) R s := by
  refine codeAny_loop rfl I (fun n s hI => ?_) n h
  show wpAny _ _ ((compTurn (.ListComp elt [⟨t0, i0, [], 0⟩, ⟨t1, i1, [], 0⟩] scope pos) 1 it acc env).onRaise (fun x => do noteFrame x env; theTreesLotGoes x)) _ _ s
  refine wpAny_noted ?_
  rw [compTurn2_1]
  refine wpAny_bind (wpAny_standAt (wpAny_bind (wpAny_mono (turn n s hI) (fun r s₁ h₁ => ?_) fun _ _ h' => h')))
  cases r with
  | none => exact wpAny_pure h₁
  | some v =>
    refine wpAny_bind (wpAny_of_eq (ht v) ?_)
    refine wpAny_bind (wpAny_mono h₁ (fun _ s₂ h₂ => ?_) fun _ _ h' => h')
    exact wpAny_bind (wpAny_bind (wpAny_mono h₂ (fun x s₄ h₄ => wpAny_bind (wpAny_mono h₄ (fun _ s₅ h₅ => wpAny_pure (wpAny_pure ⟨rfl, h₅⟩)) fun _ _ h' => h')) fun _ _ h' => h'))

theorem start2_1 {elt t0 i0 t1 i1 : Expr} {scope : Scope} {pos : Pos} {it acc : Value} {env : Env}
    (h0 : codeAny (model prog w) A (.compLoop (.ListComp elt [⟨t0, i0, [], 0⟩, ⟨t1, i1, [], 0⟩] scope pos) 1 it acc env) R s)
    (h : wpAny (model prog w) A (pyIter it) (fun it' s' => codeAny (model prog w) A (.compLoop (.ListComp elt [⟨t0, i0, [], 0⟩, ⟨t1, i1, [], 0⟩] scope pos) 1 it' acc env) R s')
      (notedBy (model prog w) A env fun x s' => R (.error x) s') s) :
    codeAny (model prog w) A (.compStart (.ListComp elt [⟨t0, i0, [], 0⟩, ⟨t1, i1, [], 0⟩] scope pos) 1 it acc env) R s := by
  refine codeAny_of_tree ?_
  show wpAny _ _ ((compStart (.ListComp elt [⟨t0, i0, [], 0⟩, ⟨t1, i1, [], 0⟩] scope pos) 1 it acc env).onRaise (fun x => do noteFrame x env; standAt theWindowsPlace)) _ _ s
  refine wpAny_notedAt ?_
  unfold compStart
  show wpAny _ _ (ask >>= _) _ _ s
  refine wpAny_bind (wpAny_askSetting (wpAny_ite ?_))
  split
  · first
      | exact wpAny_bind (wpAny_pure (wpAny_pure (And.intro rfl h0)))
      | exact wpAny_pure (And.intro rfl h0)
  · first
      | exact wpAny_bind (wpAny_rule (wpAny_bind (wpAny_standAt (wpAny_bind (wpAny_mono h (fun it' s' h' => wpAny_pure (And.intro rfl h')) fun _ _ x => x)))))
      | (refine wpAny_bind (wpAny_rule ?_); show wpAny _ _ (standAt i1.pos >>= _) _ _ s; exact wpAny_bind (wpAny_standAt (wpAny_bind (wpAny_mono h (fun it' s' h' => wpAny_pure (And.intro rfl h')) fun _ _ x => x))))

theorem start2_0 {elt t0 i0 t1 i1 : Expr} {scope : Scope} {pos : Pos} {it acc : Value} {env : Env}
    (h0 : codeAny (model prog w) A (.compLoop (.ListComp elt [⟨t0, i0, [], 0⟩, ⟨t1, i1, [], 0⟩] scope pos) 0 it acc env) R s)
    (h : wpAny (model prog w) A (pyIter it) (fun it' s' => codeAny (model prog w) A (.compLoop (.ListComp elt [⟨t0, i0, [], 0⟩, ⟨t1, i1, [], 0⟩] scope pos) 0 it' acc env) R s')
      (notedBy (model prog w) A env fun x s' => R (.error x) s') s) :
    codeAny (model prog w) A (.compStart (.ListComp elt [⟨t0, i0, [], 0⟩, ⟨t1, i1, [], 0⟩] scope pos) 0 it acc env) R s := codeAny_compStart_list h0 h

theorem loop2_0 {elt t0 i0 t1 i1 : Expr} {scope : Scope} {pos : Pos} {it acc : Value} {env : Env} (I : Nat → Shared → Prop)
    (turn : ∀ n s, I n s → wpAny (model prog w) A (pyNext it) (fun r s₁ => match r with
      | none => R (.ok .next) s₁
      | some v => wpAny (model prog w) A (assign t0 env v) (fun _ s₂ => wpAny (model prog w) A (eval i1 env) (fun x s₄ =>
              wpAny (model prog w) A (pyIter x) (fun it' s₅ => codeAny (model prog w) A (.compStart (.ListComp elt [⟨t0, i0, [], 0⟩, ⟨t1, i1, [], 0⟩] scope pos) 1 it' acc env)
                (fun r s₆ => match r with | .ok _ => ∃ m, m < n ∧ I m s₆ | .error e => cameBackBy (model prog w) A env (notedBy (model prog w) A env fun e s' => R (.error e) s') e s₆) s₅)
              (notedBy (model prog w) A env fun e s' => R (.error e) s') s₄) (notedBy (model prog w) A env fun e s' => R (.error e) s') s₂) (notedBy (model prog w) A env fun e s' => R (.error e) s') s₁) (notedBy (model prog w) A env fun e s' => R (.error e) s') s)
    (n : Nat) (h : I n s) (ht : ∀ v, letOwnedTupleGo t0 it v = pure () := by intro _; rfl) (hs : ∀ x, foldedSetIterable i1 env x = pure x := by intro _; rfl) :
    codeAny (model prog w) A (.compLoop (.ListComp elt [⟨t0, i0, [], 0⟩, ⟨t1, i1, [], 0⟩] scope pos) 0 it acc env) R s := by
  refine codeAny_loop rfl I (fun n s hI => ?_) n h
  show wpAny _ _ ((compTurn (.ListComp elt [⟨t0, i0, [], 0⟩, ⟨t1, i1, [], 0⟩] scope pos) 0 it acc env).onRaise (fun x => do noteFrame x env; theTreesLotGoes x)) _ _ s
  refine wpAny_noted ?_
  rw [compTurn2_0]
  refine wpAny_bind (wpAny_standAt (wpAny_bind (wpAny_mono (turn n s hI) (fun r s₁ h₁ => ?_) fun _ _ h' => h')))
  cases r with
  | none => exact wpAny_pure h₁
  | some v =>
    refine wpAny_bind (wpAny_of_eq (ht v) ?_)
    refine wpAny_bind (wpAny_mono h₁ (fun _ s₂ h₂ => ?_) fun _ _ h' => h')
    refine wpAny_bind (wpAny_mono h₂ (fun x s₄ h₄ => ?_) fun _ _ h' => h')
    refine wpAny_bind (wpAny_standAt (wpAny_bind (wpAny_of_eq (hs x) (wpAny_bind (wpAny_holding (wpAny_mono h₄ (fun it' s₅ h₅ => ?_) fun _ _ h' => h'))))))
    refine wpAny_bind (wpAny_runOwn (codeAny_mono h₅ fun r s₆ h₆ => ?_))
    cases r with
    | ok f => exact wpAny_pure ⟨rfl, h₆⟩
    | error e => exact h₆
end
end Mine
namespace Mine
open PySem PySem.W PyProof.Rows PySem.Calls PySem.Spec
set_option maxRecDepth 100000
set_option maxHeartbeats 1000000
section
variable {prog : Program} {w : World} {A : Around} {E : Value → Shared → Prop} {R : Result → Shared → Prop} {s : Shared}

theorem inner2 {elt t0 i0 i1 : Expr} {y : Str} {py : Pos} {scope : Scope} {pos : Pos} {I D : Addr} {n : Nat} {cenv : Env} {m : Str → Option Value} {ys : List Value} (g : Nat → Int)
    (hh : A.handled = none) (hy : cenv.kindOf y = some .local) (hp : (cenv.scope.kind == .class || (cenv.scope.kind == .module && cenv.locals != cenv.globals)) = false)
    (hDC : D ≠ cenv.locals) (hDI : D ≠ I) (hCI : cenv.locals ≠ I)
    (hst : IsRangeIter s.heap I 0 n 1) (hacc : s.heap.PlainList D ys.toArray) (hn : s.heap.Ns cenv.locals m) (hsz : ys.length + n ≤ sizeLine)
    (helt : ∀ k t s₂ m₂ E', k < n → s₂.heap.Ns cenv.locals m₂ → m₂ y = some (.int (k : Int) t) → (∀ z, z ≠ y → m₂ z = m z) → (∀ b o, b ≠ cenv.locals → b ≠ I → b ≠ D → s.heap.get? b = some o → s₂.heap.get? b = some o) →
      wpAny (model prog w) A (eval elt cenv) (fun v s₃ => (∃ u, v = .int (g k) u) ∧ Keeps s₂ s₃) E' s₂)
    (hR : ∀ h' tk m' zs, h'.Ns cenv.locals m' → (∀ z, z ≠ y → m' z = m z) → h'.PlainList D (ys ++ zs).toArray → IntsAre zs ((List.range n).map g) →
      (∀ b o, b ≠ cenv.locals → b ≠ I → b ≠ D → s.heap.get? b = some o → h'.get? b = some o) → R (.ok .next) { s with heap := h', toks := tk }) :
    codeAny (model prog w) A (.compLoop (.ListComp elt [⟨t0, i0, [], 0⟩, ⟨.Name y py, i1, [], 0⟩] scope pos) 1 (.ref I) (.ref D) cenv) R s := by
  have W := Walks.range (prog := prog) (w := w) hh I 0 1 n
  refine loop2_1 (fun k s' => ∃ h' tk m' zs j, s' = { s with heap := h', toks := tk } ∧ IsRangeIter h' I (0 + (j : Nat) * 1) ((n : Int) - (j : Nat)) 1 ∧ h'.PlainList D (ys ++ zs).toArray ∧ IntsAre zs ((List.range j).map g) ∧
      h'.Ns cenv.locals m' ∧ (∀ z, z ≠ y → m' z = m z) ∧ j ≤ n ∧ k = n + 1 - j ∧ (∀ b o, b ≠ cenv.locals → b ≠ I → b ≠ D → s.heap.get? b = some o → h'.get? b = some o)) ?_ (n + 1)
    ⟨s.heap, s.toks, m, [], 0, rfl, by simpa using hst, by simpa using hacc, .nil, hn, fun _ _ => rfl, Nat.zero_le _, rfl, fun _ _ _ _ _ e => e⟩
  rintro k s' ⟨H, tk, m', zs, j, rfl, hst', hacc', hi', hn', hm', hj, rfl, hk⟩
  by_cases hlt : j < n
  · refine W.item j _ _ _ hlt hst' fun v h₁ tk₁ hPv hst₁ hk₁ => ?_
    obtain ⟨t, rfl⟩ := hPv
    refine wpAny_assign_Name (wpAny_storeName_local hy (hn'.at' fun o e => hk₁ _ o (by simpa using hCI) e) (fun h₂ hn₂ hs₂ => ?_) hp)
    have up₂ : ∀ b o, b ≠ cenv.locals → b ≠ I → H.get? b = some o → h₂.get? b = some o := fun b o hbC hbf e => hs₂.extBut b o hbC (hk₁ b o (by simpa using hbf) e)
    have hst₂ := W.frame _ _ h₂ hst₁ fun b hb o e => hs₂.extBut b o (fun h => hCI (by rw [← h]; simpa using hb)) e
    refine wpAny_mono (helt j t _ _ _ hlt hn₂ (by simp) (fun z hz => by simp [hz, hm' z hz]) (fun b o hbC hbI hbD e => up₂ b o hbC hbI (hk b o hbC hbI hbD e))) (fun v s₄ h₄ => ?_) fun _ _ e => e
    obtain ⟨⟨u, rfl⟩, h₄, tk₄, rfl, hk₄⟩ := h₄
    have hys : (ys ++ zs).toArray.size ≤ sizeLine := by
      have e1 := IntsAre.length hi'
      simp only [List.length_map, List.length_range] at e1
      simp only [List.size_toArray, List.length_append]
      omega
    refine wpAny_list_append_plain (hsz := hys) (hacc'.at fun o e => hk₄ _ o (up₂ _ o hDC hDI e)) fun h₅ hl₅ hs₅ => ?_
    refine ⟨n + 1 - (j + 1), by omega, h₅, tk₄, _, zs ++ [.int (g j) u], j + 1, rfl, ?_, ?_, ?_, (hn₂.keeps hk₄).sameBut hs₅ (Ne.symm hDC), fun z hz => by simp [hz, hm' z hz], hlt, rfl, fun b o hbC hbf hbD e => hs₅.extBut b o hbD (hk₄ b o (up₂ b o hbC hbf (hk b o hbC hbf hbD e)))⟩
    · exact W.frame _ _ h₅ hst₂ fun b hb o e => hs₅.extBut b o (fun h => hDI (by rw [← h]; simpa using hb)) (hk₄ b o e)
    · simpa using hl₅
    · rw [List.range_succ, List.map_append]
      exact ints_append hi' (.cons _ _ .nil)
  · have hin : j = n := by omega
    subst hin
    refine W.done _ _ _ hst' fun h₁ tk₁ hk₁ => ?_
    exact hR h₁ tk₁ m' zs (hn'.at' fun o e => hk₁ _ o (by simpa using hCI) e) hm' (hacc'.at fun o e => hk₁ _ o (by simpa using hDI) e) hi' fun b o hbC hbf hbD e => hk₁ b o (by simpa using hbf) (hk b o hbC hbf hbD e)
end
end Mine
namespace Mine
open PySem PySem.W PyProof.Rows PySem.Calls PySem.Spec
set_option maxRecDepth 100000
set_option maxHeartbeats 1000000
theorem flat_len (g : Int → Nat → Int) (n : Nat) (l : List Int) : (l.flatMap fun a => (List.range n).map (g a)).length = l.length * n := by
  induction l with
  | nil => simp
  | cons a r ih => rw [List.flatMap_cons, List.length_append, ih, List.length_cons, Nat.add_mul, Nat.one_mul]; simp [Nat.add_comm]
theorem ne_lt {a b : Nat} (h : a < b ∨ b < a) : a ≠ b := by omega
theorem ints_at {vs : List Value} {ns : List Int} (hi : IntsAre vs ns) : ∀ {j : Nat} {v : Value}, vs[j]? = some v → ∃ a, ns[j]? = some a ∧ ∃ t, v = .int a t := by
  induction hi with
  | nil => intro j v hv; simp at hv
  | cons n₁ t₁ _ ih =>
    intro j v hv
    cases j with
    | zero => simp at hv; exact ⟨n₁, by simp, t₁, hv.symm⟩
    | succ j =>
      simp at hv
      obtain ⟨a, h1, h2⟩ := ih hv
      exact ⟨a, by simpa using h1, h2⟩
section
variable {prog : Program} {w : World} {A : Around} {E : Value → Shared → Prop} {s : Shared} {env : Env} {h₀ : Heap} {L : Addr} {m : Str → Option Value} {news : List (Addr × Obj)}

theorem ListComp2 {elt i0 i1 : Expr} {x y : Str} {px py : Pos} {scope : Scope} {cl : List (Str × Addr)} {pos : Pos} {Q : Value → Shared → Prop} {n : Nat} (g : Int → Nat → Int)
    (hh : A.handled = none) (hclos : closureFor scope env = pure cl) (hcell : ∀ z ∈ scope.names, z.2 ≠ .cell) (hkind : scope.kind = .function)
    (hnames : ∀ z ∈ scope.names, z.2 = .local → scope.names.lookup z.1 = some .local) (hx : scope.names.lookup x = some .local) (hy : scope.names.lookup y = some .local) (hxy : x ≠ y)
    (h : wpAny (model prog w) A (eval i0 env) (fun xv s₁ => ∃ ax vs ns, xv = .ref ax ∧ s₁.heap.IsList ax vs.toArray ∧ IntsAre vs ns ∧ ns.length * n ≤ sizeLine ∧ (n : Int) < 2 ^ 60 ∧ Fr h₀ L s₁.heap m ∧ News h₀ L s₁.heap news ∧
      (∀ C a t s₂ m₂ E', s₁.heap.objs.size ≤ C → a ∈ ns → s₂.heap.Ns C m₂ → m₂ x = some (.int a t) → (∀ b o, s₁.heap.get? b = some o → s₂.heap.get? b = some o) →
        wpAny (model prog w) A (eval i1 (compEnvC scope cl C env)) (fun rv s₃ => (∃ r t₁ t₂ t₃, rv = .ref r ∧ IsRange s₃.heap r 0 n 1 t₁ t₂ t₃) ∧ Keeps s₂ s₃) E' s₂) ∧
      (∀ C a t k t' s₂ m₂ E', s₁.heap.objs.size ≤ C → a ∈ ns → k < n → s₂.heap.Ns C m₂ → m₂ x = some (.int a t) → m₂ y = some (.int (k : Nat) t') → (∀ b o, s₁.heap.get? b = some o → s₂.heap.get? b = some o) →
        wpAny (model prog w) A (eval elt (compEnvC scope cl C env)) (fun v s₃ => (∃ u, v = .int (g a k) u) ∧ Keeps s₂ s₃) E' s₂) ∧
      (∀ D zs nn h' tk, Fr h₀ L h' m → News h₀ L h' ((D, listOf zs.toArray nn) :: news) → (∀ p ∈ news, p.1 < D) → IntsAre zs (ns.flatMap fun a => (List.range n).map (g a)) → Q (.ref D) { s₁ with heap := h', toks := tk })) E s)
    (hs0 : ∀ v, foldedSetIterable i0 env v = pure v) (hs1 : ∀ C v, foldedSetIterable i1 (compEnvC scope cl C env) v = pure v) :
    wpAny (model prog w) A (eval (.ListComp elt [⟨.Name x px, i0, [], 0⟩, ⟨.Name y py, i1, [], 0⟩] scope pos) env) Q E s := by
  rw [eval_ListComp]
  refine wpAny_comprehension_free (use := none) rfl hs0 hclos hkind hnames (wpAny_mono h (fun xv s₁ h₁ => ?_) fun _ _ e => e)
  obtain ⟨ax, vs, ns, rfl, hl, hi, hsz, hnn, F, N, hit1, helt, hQ⟩ := h₁
  have hlt : @LT.lt Nat _ ax s₁.heap.objs.size := by obtain ⟨_, e, _⟩ := hl; exact Heap.lt_size e
  refine wpAny_pyIter_list hl ?_
  refine wpAny_newObj_type (wpAny_newFunctionEnv hcell (by intro y hy; simp at hy) (fun h₁ hns₁ hsb₁ => ?_) hkind)
  dsimp only at hns₁ hsb₁ ⊢
  generalize hI : s₁.heap.objs.size = I at *
  generalize hH1 : s₁.heap.push { cls := .type "list_iterator", data := .fields #[.ref ax, .int 0 0] } = H1 at hns₁ hsb₁ ⊢
  have hD : H1.objs.size = I + 1 := by rw [← hH1, Heap.size_push, hI]
  generalize hDD : H1.objs.size = D at *
  generalize hH2 : H1.push { cls := .type "list", dict := none, data := .seq ([] : List Value).toArray } = H2 at hns₁ hsb₁ ⊢
  have hC : H2.objs.size = I + 2 := by rw [← hH2, Heap.size_push, hDD, hD]
  generalize hCC : H2.objs.size = C at *
  have old : ∀ b o, s₁.heap.get? b = some o → h₁.get? b = some o := fun b o e => by
    have hb : @LT.lt Nat _ b I := hI ▸ Heap.lt_size e
    exact hsb₁.extBut b o (ne_lt (by omega)) (Heap.get?_push_of_some _ (by rw [← hH2]; exact Heap.get?_push_of_some _ (by rw [← hH1]; exact Heap.get?_push_of_some _ e)))
  have hit₁ : h₁.IsListIter I ax 0 :=
    ⟨_, hsb₁.extBut _ _ (ne_lt (by omega)) (Heap.get?_push_of_some _ (by rw [← hH2]; exact Heap.get?_push_of_some _ (by rw [← hH1, ← hI]; exact Heap.get?_push_size _ rfl))), rfl, rfl⟩
  have hacc : h₁.PlainList D #[] := ⟨_, hsb₁.extBut _ _ (ne_lt (by omega)) (Heap.get?_push_of_some _ (by rw [← hH2, ← hDD]; exact Heap.get?_push_size _ rfl))⟩
  have hl₁ : h₁.IsList ax vs.toArray := hl.at fun o e => old _ o e
  have W := Walks.list (prog := prog) (w := w) hh I ax (ne_lt (by omega)) vs.toArray
  have hvl : vs.length = ns.length := IntsAre.length hi
  have key : codeAny (model prog w) A (.compLoop (.ListComp elt [⟨.Name x px, i0, [], 0⟩, ⟨.Name y py, i1, [], 0⟩] scope pos) 0 (.ref I) (.ref D) (compEnvC scope cl C env))
      (compPost (model prog w) A E none Q (.ref D) C) { s₁ with heap := h₁, toks := s₁.toks + ([] : List (Str × Value)).length } := by
    refine loop2_0 (fun k s' => ∃ h' tk m' zs j, s' = { s₁ with heap := h', toks := tk } ∧ (h'.IsListIter I ax j ∧ h'.IsList ax vs.toArray) ∧ h'.PlainList D zs.toArray ∧ IntsAre zs ((ns.take j).flatMap fun a => (List.range n).map (g a)) ∧
      h'.Ns C m' ∧ j ≤ ns.length ∧ k = ns.length + 1 - j ∧ (∀ b o, b ≠ C → b ≠ I → b ≠ D → h₁.get? b = some o → h'.get? b = some o)) ?_ (ns.length + 1)
      ⟨h₁, _, _, [], 0, rfl, ⟨hit₁, hl₁⟩, by simpa using hacc, .nil, hns₁, Nat.zero_le _, rfl, fun _ _ _ _ _ e => e⟩ (fun _ => rfl) (hs1 C)
    rintro k s' ⟨H, tk, m', zs, j, rfl, hst', hacc', hi', hn', hj, rfl, hk⟩
    have old' : ∀ b o, s₁.heap.get? b = some o → H.get? b = some o := fun b o e => by
      have hb : @LT.lt Nat _ b I := hI ▸ Heap.lt_size e
      exact hk b o (by omega) (by omega) (by omega) (old b o e)
    have hCI : C ≠ I := by omega
    have hDI : D ≠ I := by omega
    have hDC : D ≠ C := by omega
    by_cases hlt : j < ns.length
    · refine W.item j _ _ _ (by simpa [hvl] using hlt) hst' fun v h₂ tk₂ hPv hst₂ hk₂ => ?_
      obtain ⟨a, ha, t, rfl⟩ := ints_at hi (show vs[j]? = some v by simpa using hPv)
      have haM : a ∈ ns := List.mem_of_getElem? ha
      refine wpAny_assign_Name (wpAny_storeName_local (show (compEnvC scope cl C env).kindOf x = some .local from lookup_relabel_local hx) (hn'.at' fun o e => hk₂ _ o (by simpa using hCI) e) (fun h₃ hn₃ hs₃ => ?_) (by simp [compEnvC, relabel, hkind]))
      have up₃ : ∀ b o, b ≠ C → b ≠ I → H.get? b = some o → h₃.get? b = some o := fun b o hbC hbI e => hs₃.extBut b o hbC (hk₂ b o (by simpa using hbI) e)
      have old₃ : ∀ b o, s₁.heap.get? b = some o → h₃.get? b = some o := fun b o e => by
        have hb : @LT.lt Nat _ b I := hI ▸ Heap.lt_size e
        exact up₃ b o (by omega) (by omega) (old' b o e)
      refine wpAny_mono (hit1 C a t _ _ _ (by omega) haM hn₃ (by simp) old₃) (fun rv s₄ h₄ => ?_) fun _ _ e => e
      obtain ⟨⟨r, t₁, t₂, t₃, rfl, hr⟩, h₄, tk₄, rfl, hk₄⟩ := h₄
      refine wpAny_pyIter_range hr (small_one (by omega) (by omega) (by omega) (by omega)) ?_
      dsimp only
      have hrs : Builtin.Range.rangeSize 0 (n : Int) 1 = (n : Int) := by simpa using rangeSize_nat 0 n
      rw [hrs]
      generalize hJ : h₄.objs.size = J
      have hIJ : @LT.lt Nat _ C J := hJ ▸ Heap.lt_size (hk₄ _ _ hn₃.choose_spec.choose_spec.choose_spec.1)
      have hit₄ : IsRangeIter (h₄.push { cls := .type "range_iterator", data := .fields #[rawInt 0, rawInt (n : Int), rawInt 1] }) J 0 n 1 := by
        rw [← hJ]
        exact Heap.get?_push_size _ rfl
      have up₄ : ∀ b o, b ≠ C → b ≠ I → H.get? b = some o → (h₄.push { cls := .type "range_iterator", data := .fields #[rawInt 0, rawInt (n : Int), rawInt 1] }).get? b = some o := fun b o hbC hbI e => Heap.get?_push_of_some _ (hk₄ _ _ (up₃ b o hbC hbI e))
      have hn₄ := (hn₃.keeps hk₄).push (o := { cls := .type "range_iterator", data := .fields #[rawInt 0, rawInt (n : Int), rawInt 1] })
      have loopJ : ∀ k', k' = ns.length + 1 - j → codeAny (model prog w) A (.compLoop (.ListComp elt [⟨.Name x px, i0, [], 0⟩, ⟨.Name y py, i1, [], 0⟩] scope pos) 1 (.ref J) (.ref D) (compEnvC scope cl C env))
          (fun r s₆ => match r with
            | .ok _ => ∃ m', m' < k' ∧ ∃ h' tk m'' zs j, s₆ = { s₁ with heap := h', toks := tk } ∧ (h'.IsListIter I ax j ∧ h'.IsList ax vs.toArray) ∧ h'.PlainList D zs.toArray ∧ IntsAre zs ((ns.take j).flatMap fun a => (List.range n).map (g a)) ∧
                h'.Ns C m'' ∧ j ≤ ns.length ∧ m' = ns.length + 1 - j ∧ (∀ b o, b ≠ C → b ≠ I → b ≠ D → h₁.get? b = some o → h'.get? b = some o)
            | .error e => cameBackBy (model prog w) A (compEnvC scope cl C env) (notedBy (model prog w) A (compEnvC scope cl C env) fun e s' => compPost (model prog w) A E none Q (.ref D) C (.error e) s') e s₆)
          { s₁ with heap := h₄.push { cls := .type "range_iterator", data := .fields #[rawInt 0, rawInt (n : Int), rawInt 1] }, toks := tk₄ } := by
        rintro k' rfl
        have hlen := IntsAre.length hi'
        have hfl : ((ns.take j).flatMap fun a => (List.range n).map (g a)).length = j * n := by
          rw [flat_len, List.length_take, Nat.min_eq_left (Nat.le_of_lt hlt)]
        refine inner2 (ys := zs) (g a) hh (lookup_relabel_local hy) (by simp [compEnvC, relabel, hkind]) hDC (ne_lt (show D < J ∨ J < D by omega)) (ne_lt (show C < J ∨ J < C by omega)) hit₄ ?_ hn₄ ?_ ?_ ?_
        · obtain ⟨nn, hpl⟩ := hacc'
          exact ⟨nn, up₄ _ _ hDC hDI hpl⟩
        · rw [hlen, hfl]
          have : (j + 1) * n ≤ ns.length * n := Nat.mul_le_mul_right _ hlt
          rw [Nat.add_mul, Nat.one_mul] at this
          omega
        · intro k t' s₂ m₂ E' hkn hn₂ hmy hmz hk₂'
          refine helt C a t k t' s₂ m₂ E' (by omega) haM hkn hn₂ ?_ hmy ?_
          · rw [hmz x hxy]; simp
          · intro b o e
            have hb : @LT.lt Nat _ b I := hI ▸ Heap.lt_size e
            exact hk₂' b o (ne_lt (show @LT.lt Nat _ b C ∨ @LT.lt Nat _ C b by omega)) (ne_lt (show @LT.lt Nat _ b J ∨ @LT.lt Nat _ J b by omega)) (ne_lt (show @LT.lt Nat _ b D ∨ @LT.lt Nat _ D b by omega)) (Heap.get?_push_of_some _ (hk₄ _ _ (old₃ b o e)))
        · intro h₅ tk₅ m₅ ws hn₅ hmz₅ hpl₅ hws hk₅
          have upK : ∀ b o, b ≠ C → b ≠ I → b ≠ D → H.get? b = some o → h₅.get? b = some o := fun b o hbC hbI hbD e => by
            have hb : @LT.lt Nat _ b J := hJ ▸ Heap.lt_size (hk₄ _ _ (up₃ b o hbC hbI e))
            exact hk₅ b o hbC (ne_lt (by omega)) hbD (up₄ b o hbC hbI e)
          have hstk : ∀ b ∈ [I, ax], ∀ o, h₃.get? b = some o → h₅.get? b = some o := by
            intro b hb o e
            have hb1 : b = I ∨ b = ax := by simpa using hb
            have hbI : @LE.le Nat _ b I := by rcases hb1 with rfl | rfl <;> omega
            exact hk₅ b o (ne_lt (show @LT.lt Nat _ b C ∨ @LT.lt Nat _ C b by omega)) (ne_lt (show @LT.lt Nat _ b J ∨ @LT.lt Nat _ J b by omega)) (ne_lt (show @LT.lt Nat _ b D ∨ @LT.lt Nat _ D b by omega)) (Heap.get?_push_of_some _ (hk₄ _ _ e))
          refine ⟨ns.length + 1 - (j + 1), by omega, h₅, tk₅, m₅, zs ++ ws, j + 1, rfl, ?_, hpl₅, ?_, hn₅, hlt, rfl, fun b o hbC hbI hbD e => upK b o hbC hbI hbD (hk b o hbC hbI hbD e)⟩
          · exact W.frame _ _ _ (W.frame _ _ h₃ hst₂ fun b hb o e => hs₃.extBut b o (by
              have hb1 : b = I ∨ b = ax := by simpa using hb
              have hbI : @LE.le Nat _ b I := by rcases hb1 with rfl | rfl <;> omega
              exact ne_lt (show @LT.lt Nat _ b C ∨ @LT.lt Nat _ C b by omega)) e) hstk
          · have e1 : ns.take (j + 1) = ns.take j ++ [a] := by rw [List.take_add_one, ha]; rfl
            rw [e1, List.flatMap_append]
            simpa using ints_append hi' hws
      refine start2_1 (loopJ _ rfl) ?_
      exact wpAny_pyIter_rangeiter hit₄ (loopJ _ rfl)
    · have hin : j = ns.length := by omega
      subst hin
      refine W.done _ _ _ (by simpa [hvl] using hst') fun h₂ tk₂ hk₂ => ?_
      refine ⟨m', hn'.at' fun o e => hk₂ _ o (by simpa using hCI) e, fun h₃ hs₃ => ?_⟩
      have upE : ∀ b o, b ≠ C → b ≠ I → H.get? b = some o → h₃.get? b = some o := fun b o hbC hbI e => hs₃.extBut b o hbC (hk₂ b o (by simpa using hbI) e)
      have oldE : ∀ b o, s₁.heap.get? b = some o → h₃.get? b = some o := fun b o e => by
        have hb : @LT.lt Nat _ b I := hI ▸ Heap.lt_size e
        exact upE b o (ne_lt (by omega)) (ne_lt (by omega)) (old' b o e)
      obtain ⟨nn, hpl⟩ := hacc'
      have hDg := upE D _ hDC hDI hpl
      have hLI : @LT.lt Nat _ L I := hI ▸ F.ns.lt
      refine hQ D zs nn h₃ _ (F.keeps oldE) ?_ ?_ (by simpa using hi')
      · intro p hp
        rcases List.mem_cons.mp hp with rfl | hp
        · refine ⟨hDg, ne_lt (by omega), ?_⟩
          cases e : h₀.get? D with
          | none => rfl
          | some o' =>
            have := Heap.lt_size (F.keep _ _ e)
            have h2 : @LT.lt Nat _ D I := hI ▸ this
            omega
        · exact (N.grown oldE) p hp
      · intro p hp
        have : @LT.lt Nat _ p.1 I := hI ▸ Heap.lt_size (N p hp).1
        show @LT.lt Nat _ p.1 D
        omega
  exact codeAny_compStart_list key (wpAny_pyIter_listiter hit₁ key)
end
end Mine
namespace Mine
open PySem PySem.W PyProof.Rows PySem.Calls PySem.Spec
set_option maxRecDepth 100000
set_option maxHeartbeats 1000000
section
variable {prog : Program} {w : World} {A : Around} {E : Value → Shared → Prop} {s : Shared} {env : Env} {h₀ : Heap} {L : Addr} {m : Str → Option Value} {news : List (Addr × Obj)}

abbrev cellNone : Obj := { cls := .type "cell", data := .cell none }

theorem newEnvCell {M : Model} {scope : Scope} {globals : Addr} {cl : List (Str × Addr)} {qual : Str} {x : Str} {Q : Env → Shared → Prop}
    (hcells : ∀ k acc, cellsFrom k scope.names acc = (x, k) :: acc) (hpush : ∀ h, pushCells h scope.names = h.push cellNone)
    (hQ : Q (newEnv scope s.heap.objs.size globals ((x, s.heap.objs.size + 1) :: cl) qual none .none (some env) builtinsNs) { s with heap := (s.heap.push { cls := .type "dict", data := .dict #[] }).push cellNone }) :
    wpAny M A (newFunctionEnv scope globals cl [] qual none .none (some env)) Q E s := by
  simp only [newFunctionEnv, Option.isSome_some, if_true]
  refine wpAny_bind (wpAny_alloc ?_)
  refine wpAny_bind (wpAny_layCells _ (fun name kind cells => by cases kind == NameKind.cell <;> simp) _ _ _ _ ?_)
  rw [hcells, hpush]
  rw [List.forIn_nil]
  refine wpAny_bind (wpAny_pure (wpAny_pure ?_))
  rw [show ({ s with heap := s.heap.push { cls := .type "dict", data := .dict #[] } } : Shared).heap.objs.size = s.heap.objs.size + 1 from Heap.size_push ..]
  exact hQ

theorem ListCompCell {elt it : Expr} {x : Str} {px : Pos} {scope : Scope} {cl : List (Str × Addr)} {pos : Pos} {Q : Value → Shared → Prop} {n : Nat} {step : Int} (g : Nat → Int)
    (hh : A.handled = none) (hclos : closureFor scope env = pure cl) (hcells : ∀ k acc, cellsFrom k scope.names acc = (x, k) :: acc) (hpush : ∀ h, pushCells h scope.names = h.push cellNone) (hkind : scope.kind = .function)
    (hnames : ∀ z ∈ scope.names, z.2 = .local → scope.names.lookup z.1 = some .local) (hx : (relabel scope env).names.lookup x = some .cell)
    (h : wpAny (model prog w) A (eval it env) (fun rv s₁ => ∃ r b t₁ t₂ t₃, rv = .ref r ∧ IsRange s₁.heap r 0 b step t₁ t₂ t₃ ∧ Builtin.Range.small 0 b step = true ∧ Builtin.Range.rangeSize 0 b step = (n : Int) ∧ n ≤ sizeLine ∧ Fr h₀ L s₁.heap m ∧ News h₀ L s₁.heap news ∧
      (∀ C c k t s₂ m₂ E', s₁.heap.objs.size ≤ C → s₁.heap.objs.size ≤ c → k < n → s₂.heap.Ns C m₂ → s₂.heap.IsCell c (some (.int ((k : Nat) * step) t)) → (∀ b o, s₁.heap.get? b = some o → s₂.heap.get? b = some o) →
        wpAny (model prog w) A (eval elt (compEnvC scope ((x, c) :: cl) C env)) (fun v s₃ => (∃ u, v = .int (g k) u) ∧ Keeps s₂ s₃) E' s₂) ∧
      (∀ D zs nn h' tk, Fr h₀ L h' m → News h₀ L h' ((D, listOf zs.toArray nn) :: news) → (∀ p ∈ news, p.1 < D) → IntsAre zs ((List.range n).map g) → Q (.ref D) { s₁ with heap := h', toks := tk })) E s)
    (hs0 : ∀ v, foldedSetIterable it env v = pure v) :
    wpAny (model prog w) A (eval (.ListComp elt [⟨.Name x px, it, [], 0⟩] scope pos) env) Q E s := by
  rw [eval_ListComp]
  refine wpAny_comprehension_free (use := none) rfl hs0 hclos hkind hnames (wpAny_mono h (fun xv s₁ h₁ => ?_) fun _ _ e => e)
  obtain ⟨r, b₀, t₁, t₂, t₃, rfl, hr, hsm, hrs, hsz, F, N, helt, hQ⟩ := h₁
  refine wpAny_pyIter_range hr hsm ?_
  rw [hrs]
  generalize hI : s₁.heap.objs.size = I at *
  generalize hH1 : s₁.heap.push { cls := .type "range_iterator", data := .fields #[rawInt 0, rawInt (n : Int), rawInt step] } = H1
  have hD : H1.objs.size = I + 1 := by rw [← hH1, Heap.size_push, hI]
  have hit1 : IsRangeIter H1 I 0 n step := by rw [← hH1, ← hI]; exact Heap.get?_push_size _ rfl
  have old1 : ∀ b o, s₁.heap.get? b = some o → H1.get? b = some o := fun b o e => by rw [← hH1]; exact Heap.get?_push_of_some _ e
  clear hH1
  refine wpAny_newObj_type (newEnvCell hcells hpush ?_)
  dsimp only
  generalize hDD : H1.objs.size = D at *
  generalize hH2 : H1.push { cls := .type "list", dict := none, data := .seq ([] : List Value).toArray } = H2
  have hC : H2.objs.size = I + 2 := by rw [← hH2, Heap.size_push, hDD, hD]
  have hpl2 : H2.PlainList D #[] := ⟨_, by rw [← hH2, ← hDD]; exact Heap.get?_push_size _ rfl⟩
  have old2 : ∀ b o, H1.get? b = some o → H2.get? b = some o := fun b o e => by rw [← hH2]; exact Heap.get?_push_of_some _ e
  clear hH2
  generalize hCC : H2.objs.size = C at *
  have hns3 : (H2.push { cls := .type "dict", data := .dict #[] }).Ns C (fun _ => none) := by
    have := Heap.Ns.new H2 (.type "dict")
    rw [hCC] at this
    exact this
  generalize hH3 : H2.push { cls := .type "dict", data := .dict #[] } = H3 at *
  have hc : H3.objs.size = C + 1 := by rw [← hH3, Heap.size_push, hCC]
  have old3 : ∀ b o, H2.get? b = some o → H3.get? b = some o := fun b o e => by rw [← hH3]; exact Heap.get?_push_of_some _ e
  clear hH3
  generalize hcc : C + 1 = c at *
  generalize hH4 : H3.push cellNone = H4
  have hcell4 : H4.IsCell c none := ⟨_, by rw [← hH4, ← hc]; exact Heap.get?_push_size _ rfl, rfl⟩
  have old4 : ∀ b o, H3.get? b = some o → H4.get? b = some o := fun b o e => by rw [← hH4]; exact Heap.get?_push_of_some _ e
  clear hH4
  have W := Walks.range (prog := prog) (w := w) hh I 0 step n
  have key : codeAny (model prog w) A (.compLoop (.ListComp elt [⟨.Name x px, it, [], 0⟩] scope pos) 0 (.ref I) (.ref D) (compEnvC scope ((x, c) :: cl) C env))
      (compPost (model prog w) A E none Q (.ref D) C) { s₁ with heap := H4 } := by
    have hCI : C ≠ I := by omega
    have hDI : D ≠ I := by omega
    have hDC : D ≠ C := by omega
    have hDc : D ≠ c := by omega
    have hCc : C ≠ c := by omega
    have hIc : I ≠ c := by omega
    refine codeAny_compLoop_list (fun k s' => ∃ h' tk m' zs j cv, s' = { s₁ with heap := h', toks := tk } ∧ IsRangeIter h' I (0 + (j : Nat) * step) ((n : Int) - (j : Nat)) step ∧ h'.PlainList D zs.toArray ∧ IntsAre zs ((List.range j).map g) ∧
      h'.Ns C m' ∧ h'.IsCell c cv ∧ j ≤ n ∧ k = n + 1 - j ∧ (∀ b o, b ≠ C → b ≠ I → b ≠ D → b ≠ c → H4.get? b = some o → h'.get? b = some o)) ?_ (n + 1)
      ⟨H4, s₁.toks, fun _ => none, [], 0, none, rfl, by simpa using old4 _ _ (old3 _ _ (old2 _ _ hit1)), (hpl2.at fun o e => old4 _ _ (old3 _ _ e)), .nil, hns3.keeps old4, hcell4, Nat.zero_le _, rfl, fun _ _ _ _ _ _ e => e⟩
    rintro k s' ⟨H, tk, m', zs, j, cv, rfl, hst', hacc', hi', hn', hcell', hj, rfl, hk⟩
    have old' : ∀ b o, s₁.heap.get? b = some o → H.get? b = some o := fun b o e => by
      have hb : @LT.lt Nat _ b I := hI ▸ Heap.lt_size e
      exact hk b o (ne_lt (by omega)) (ne_lt (by omega)) (ne_lt (by omega)) (ne_lt (by omega)) (old4 _ _ (old3 _ _ (old2 _ _ (old1 b o e))))
    by_cases hlt : j < n
    · refine W.item j _ _ _ hlt hst' fun v h₂ tk₂ hPv hst₂ hk₂ => ?_
      obtain ⟨t, rfl⟩ := hPv
      have hcell2 : h₂.IsCell c cv := by
        obtain ⟨o, ho, hd⟩ := hcell'
        exact ⟨o, hk₂ _ o (by simpa using Ne.symm hIc) ho, hd⟩
      refine wpAny_assign_Name (wpAny_storeName_cell (show (compEnvC scope ((x, c) :: cl) C env).scope.kind = .function by simp [compEnvC, relabel, hkind]) (show (compEnvC scope ((x, c) :: cl) C env).kindOf x = some .cell from hx) (show ((x, c) :: cl).lookup x = some c by simp) hcell2 fun h₃ hc₃ hs₃ => ?_)
      have up₃ : ∀ b o, b ≠ c → b ≠ I → H.get? b = some o → h₃.get? b = some o := fun b o hbc hbI e => hs₃.extBut b o hbc (hk₂ b o (by simpa using hbI) e)
      have old₃ : ∀ b o, s₁.heap.get? b = some o → h₃.get? b = some o := fun b o e => by
        have hb : @LT.lt Nat _ b I := hI ▸ Heap.lt_size e
        exact up₃ b o (ne_lt (by omega)) (ne_lt (by omega)) (old' b o e)
      have hst₃ := W.frame _ _ h₃ hst₂ fun b hb o e => hs₃.extBut b o (fun h => hIc (by rw [← h]; exact (List.mem_singleton.mp hb).symm)) e
      have hn₃ : h₃.Ns C m' := hn'.at' fun o e => up₃ _ o hCc hCI e
      refine wpAny_mono (helt C c j t _ _ _ (by omega) (by omega) hlt hn₃ (by simpa using hc₃) old₃) (fun v s₄ h₄ => ?_) fun _ _ e => e
      obtain ⟨⟨u, rfl⟩, h₄, tk₄, rfl, hk₄⟩ := h₄
      have hzs : zs.toArray.size ≤ sizeLine := by
        have e1 := IntsAre.length hi'
        simp only [List.length_map, List.length_range] at e1
        simp only [List.size_toArray]
        omega
      refine wpAny_list_append_plain (hsz := hzs) (hacc'.at fun o e => hk₄ _ o (up₃ _ o hDc hDI e)) fun h₅ hl₅ hs₅ => ?_
      refine ⟨n + 1 - (j + 1), by omega, h₅, tk₄, _, zs ++ [.int (g j) u], j + 1, _, rfl, ?_, by simpa using hl₅, ?_, (hn₃.keeps hk₄).sameBut hs₅ (Ne.symm hDC), (hc₃.keeps hk₄).sameBut hs₅ (Ne.symm hDc), hlt, rfl, fun b o hbC hbI hbD hbc e => hs₅.extBut b o hbD (hk₄ b o (up₃ b o hbc hbI (hk b o hbC hbI hbD hbc e)))⟩
      · exact W.frame _ _ h₅ hst₃ fun b hb o e => hs₅.extBut b o (fun h => hDI (by rw [← h]; simpa using hb)) (hk₄ b o e)
      · rw [List.range_succ, List.map_append]
        exact ints_append hi' (.cons _ _ .nil)
    · have hin : j = n := by omega
      subst hin
      refine W.done _ _ _ hst' fun h₂ tk₂ hk₂ => ?_
      refine ⟨m', hn'.at' fun o e => hk₂ _ o (by simpa using hCI) e, fun h₃ hs₃ => ?_⟩
      have upE : ∀ b o, b ≠ C → b ≠ I → H.get? b = some o → h₃.get? b = some o := fun b o hbC hbI e => hs₃.extBut b o hbC (hk₂ b o (by simpa using hbI) e)
      have oldE : ∀ b o, s₁.heap.get? b = some o → h₃.get? b = some o := fun b o e => by
        have hb : @LT.lt Nat _ b I := hI ▸ Heap.lt_size e
        exact upE b o (ne_lt (by omega)) (ne_lt (by omega)) (old' b o e)
      obtain ⟨nn, hpl⟩ := hacc'
      have hDg := upE D _ hDC hDI hpl
      have hLI : @LT.lt Nat _ L I := hI ▸ F.ns.lt
      refine hQ D zs nn h₃ _ (F.keeps oldE) ?_ ?_ hi'
      · intro p hp
        rcases List.mem_cons.mp hp with rfl | hp
        · refine ⟨hDg, ne_lt (by omega), ?_⟩
          cases e : h₀.get? D with
          | none => rfl
          | some o' =>
            have := Heap.lt_size (F.keep _ _ e)
            have h2 : @LT.lt Nat _ D I := hI ▸ this
            omega
        · exact (N.grown oldE) p hp
      · intro p hp
        have : @LT.lt Nat _ p.1 I := hI ▸ Heap.lt_size (N p hp).1
        show @LT.lt Nat _ p.1 D
        omega
  exact codeAny_compStart_list key (wpAny_pyIter_rangeiter (old4 _ _ (old3 _ _ (old2 _ _ hit1))) key)
end
end Mine
namespace Mine
open PySem PySem.W PyProof.Rows PySem.Calls PySem.Spec
set_option maxRecDepth 100000
set_option maxHeartbeats 1000000
theorem paired_range (g : Nat → Int) {vs ys : List Value} (hF : Paired (fun v y => ∃ (k : Nat) (t u : Tok), v = Value.int (k : Int) t ∧ y = Value.int (g k) u) vs ys) :
    ∀ o : Nat, (∀ j v, vs[j]? = some v → ∃ t, v = Value.int ((o + j : Nat) : Int) t) → IntsAre ys ((List.range' o vs.length).map g) := by
  induction hF with
  | nil => intro o _; exact .nil
  | @cons v y vs ys h _ ih =>
    intro o hv
    obtain ⟨k, t, u, rfl, rfl⟩ := h
    obtain ⟨t', e⟩ := hv 0 _ rfl
    simp only [Value.int.injEq] at e
    have hk : k = o := by omega
    subst hk
    rw [List.length_cons, List.range'_succ, List.map_cons]
    refine .cons _ _ (ih (k + 1) fun j v hj => ?_)
    obtain ⟨t'', e2⟩ := hv (j + 1) v (by simpa using hj)
    exact ⟨t'', by rw [e2]; congr 1; omega⟩
section
variable {prog : Program} {w : World} {A : Around} {E : Value → Shared → Prop} {s : Shared} {env : Env}

theorem sumKeep {l : Addr} {vs : List Value} {ns : List Int} {Q : Value → Shared → Prop} (hh : A.handled = none) (hl : s.heap.IsList l vs.toArray) (hi : IntsAre vs ns)
    (h : ∀ h' tk t', (∀ b o, s.heap.get? b = some o → h'.get? b = some o) → Q (.int ns.sum t') { s with heap := h', toks := tk }) :
    wpAny (model prog w) A (call (.builtin "sum") [.ref l]) Q E s := by
  obtain ⟨xs, hx⟩ := hi.allInts.items
  have hn : numsOf vs.toArray.toList = ns := by rw [show vs.toArray.toList = vs from rfl, hi.numsOf]
  rw [hx] at hl hn
  rw [nums_intItems] at hn
  refine sum_intListG hh hl fun h' tk t' hk => ?_
  have := h h' tk t' hk
  rw [preSum_eq, List.take_of_length_le (by simp), hn]
  exact this

theorem ListCompR {elt it : Expr} {x : Str} {px : Pos} {scope : Scope} {cl : List (Str × Addr)} {pos : Pos} {Q : Value → Shared → Prop} {n : Nat} (g : Nat → Int)
    (hh : A.handled = none) (hclos : closureFor scope env = pure cl) (hcell : ∀ z ∈ scope.names, z.2 ≠ .cell) (hkind : scope.kind = .function)
    (hnames : ∀ z ∈ scope.names, z.2 = .local → scope.names.lookup z.1 = some .local) (hx : scope.names.lookup x = some .local)
    (h : wpAny (model prog w) A (eval it env) (fun rv s₁ => ∃ r t₁ t₂ t₃, rv = .ref r ∧ IsRange s₁.heap r 0 n 1 t₁ t₂ t₃ ∧ (n : Int) < 2 ^ 60 ∧ n ≤ sizeLine ∧
      (∀ C k t s₂ m₂ E', s₁.heap.objs.size ≤ C → k < n → s₂.heap.Ns C m₂ → m₂ x = some (.int (k : Nat) t) → (∀ b o, s₁.heap.get? b = some o → s₂.heap.get? b = some o) →
        wpAny (model prog w) A (eval elt (compEnvC scope cl C env)) (fun v s₃ => (∃ u, v = .int (g k) u) ∧ Keeps s₂ s₃) E' s₂) ∧
      (∀ D zs h' tk, h'.IsList D zs.toArray → (∀ b o, s₁.heap.get? b = some o → h'.get? b = some o) → IntsAre zs ((List.range n).map g) → Q (.ref D) { s₁ with heap := h', toks := tk })) E s)
    (hs0 : ∀ v, foldedSetIterable it env v = pure v) :
    wpAny (model prog w) A (eval (.ListComp elt [⟨.Name x px, it, [], 0⟩] scope pos) env) Q E s := by
  refine wpAny_ListComp_free (fun _ => true) (fun v y => ∃ (k : Nat) (t u : Tok), v = Value.int (k : Int) t ∧ y = Value.int (g k) u) hclos hcell hkind hnames hx (wpAny_mono h (fun rv s₁ h₁ => ?_) fun _ _ e => e) hs0
  obtain ⟨r, t₁, t₂, t₃, rfl, hr, hn60, hsz, helt, hQ⟩ := h₁
  have hrs : Builtin.Range.rangeSize 0 (n : Int) 1 = (n : Int) := by simpa using rangeSize_nat 0 n
  refine wpAny_pyIter_range hr (small_one (by omega) (by omega) (by omega) (by omega)) ?_
  rw [hrs]
  have old : ∀ (h' : Heap), (∀ b o, b ∉ [s₁.heap.objs.size] → (s₁.heap.push { cls := .type "range_iterator", data := .fields #[rawInt 0, rawInt (n : Int), rawInt 1] }).get? b = some o → h'.get? b = some o) → ∀ b o, s₁.heap.get? b = some o → h'.get? b = some o :=
    fun h' hk b o e => hk b o (fun hm => Nat.lt_irrefl _ ((List.mem_singleton.mp hm) ▸ Heap.lt_size e)) (Heap.get?_push_of_some _ e)
  refine ⟨s₁.heap.objs.size, [s₁.heap.objs.size], [s₁.heap.objs.size], n, _, _, rfl, (Walks.range hh _ 0 1 n).bound, hsz, (by show IsRangeIter _ _ _ _ _; simpa using Heap.get?_push_size _ rfl), ?_, ⟨?_, ?_⟩, ?_⟩
  · intro b hb
    show b < (s₁.heap.push _).objs.size
    rw [Heap.size_push, List.mem_singleton.mp hb]
    exact Nat.lt_succ_self _
  · intro C i v s₃ m₃ E' hC hP hns hm hk _
    exact wpAny_tests_nil ⟨rfl, _, _, rfl, fun _ _ e => e⟩
  · intro C i v s₃ m₃ E' hC hP _ hns hm hk _
    obtain ⟨hi, t, rfl⟩ := hP
    have e1 : (0 : Int) + ((i : Nat) : Int) * 1 = ((i : Nat) : Int) := by omega
    rw [e1] at hm ⊢
    refine wpAny_mono (helt C i t s₃ m₃ E' (Nat.le_of_succ_le (by simpa [Heap.size_push] using hC)) hi hns hm (old _ hk)) (fun y s₄ h₄ => ?_) fun _ _ e => e
    obtain ⟨⟨u, rfl⟩, h₄⟩ := h₄
    exact ⟨⟨i, t, u, rfl, rfl⟩, h₄⟩
  · intro D h' tk ys vs hnew hlD _ hlen hP hF hk
    rw [List.filter_eq_self.mpr (fun _ _ => rfl)] at hF
    have hi := paired_range g hF 0 (fun j v hj => by
      obtain ⟨_, t, e⟩ := hP j v hj
      exact ⟨t, by rw [e]; congr 1; omega⟩)
    rw [hlen, ← List.range_eq_range'] at hi
    exact hQ D ys.toList h' tk (by simpa using hlD) (old _ hk) hi
end
end Mine
namespace Mine
open PySem PySem.W PyProof.Rows PySem.Calls PySem.Spec
set_option maxRecDepth 100000
set_option maxHeartbeats 1000000
section
variable {prog : Program} {w : World} {A : Around} {E : Value → Shared → Prop} {s : Shared} {h₀ : Heap} {L : Addr} {m : Str → Option Value} {news : List (Addr × Obj)}

theorem iadd_list {M : Model} {a b : Value} {Q : Value → Shared → Prop} (ha : s.TypeIs a "list") (hb : s.TypeIs b "list") (hc : wpAny M A (call (.builtin "list.__iadd__") [a, b]) Q E s) : wpAny M A (inplaceOp .Add a b) Q E s := by
  unfold inplaceOp
  refine wpAny_holding ?_
  have hlook : typeLookup (.type "list") (dunderI "add") = pure (some (.builtin "list.__iadd__")) := F.slot_list_iadd.lookup
  have hfi : fillsInplaceSlot (.type "list") "add" (Operator.Add == .Add) = pure false := by
    unfold fillsInplaceSlot
    show (typeLookup (.type "list") (dunderI "add") >>= fun fi => pure (fi.isSome && !isSeqSlot fi)) = pure false
    rw [hlook]
    rfl
  have hsi : seqSlot? (.type "list") (dunderI "add") = pure (some (.builtin "list.__iadd__")) := by
    unfold seqSlot?
    rw [hlook]
    rfl
  refine wpAny_bind (wpAny_typeOf ha (wpAny_bind (wpAny_of_eq hfi ?_)))
  show wpAny M A (if false = true then _ else _) Q E s
  rw [if_neg Bool.false_ne_true]
  refine wpAny_bind (wpAny_binaryOp1_none (nm := "add") ha hb noFill_list_add ?_)
  refine wpAny_bind (wpAny_of_eq hsi ?_)
  exact wpAny_bind (wpAny_rule hc)

theorem iadd_K {D b : Addr} {ys zs : List Value} {n n2 : Nat} {ns ms : List Int} {rest : List (Addr × Obj)} {Q : Value → Shared → Prop}
    (F : Fr h₀ L s.heap m) (N : News h₀ L s.heap ((D, listOf ys.toArray n) :: rest)) (hap : ∀ p ∈ rest, p.1 ≠ D)
    (hb : s.heap.get? b = some (listOf zs.toArray n2)) (hi : IntsAre ys ns) (hj : IntsAre zs ms) (hsz : ys.length + zs.length ≤ sizeLine)
    (h : ∀ h' n', Fr h₀ L h' m → News h₀ L h' ((D, listOf (ys ++ zs).toArray n') :: rest) → IntsAre (ys ++ zs) (ns ++ ms) → Q (.ref D) { s with heap := h' }) :
    wpAny (model prog w) A (inplaceOp .Add (.ref D) (.ref b)) Q E s := by
  have hm := N _ (List.Mem.head rest)
  have hsz' : ys.toArray.size + zs.toArray.size ≤ sizeLine := by rw [List.size_toArray, List.size_toArray]; exact hsz
  refine iadd_list ⟨_, hm.1, rfl⟩ ⟨_, hb, rfl⟩ (call_meets PySem.F.slot_list_iadd ⟨_, hm.1, rfl⟩ PySem.F.entry_list_iadd (PySem.F.args_list_iadd_2 _ _) (AutoSeq1.list___iadd___list_list_0 D ys.toArray n b zs.toArray n2 (extend_door hsz') (Nat.le_trans (Nat.le_add_right _ _) hsz') (Nat.le_succ_of_le hsz')) ⟨hm.1, hb, ?_⟩)
  have e : ys.toArray ++ zs.toArray = (ys ++ zs).toArray := by simp
  have ho' : (s.heap.update D (Obj.mapSeq fun x => x ++ zs.toArray)).get? D = some { cls := .type "list", data := .seq (ys ++ zs).toArray (if (ys.toArray ++ zs.toArray).size == ys.toArray.size then n else n + 1) } := by
    rw [Heap.get?_update_self _ hm.1 (by rw [mapSeq_app]; rfl), mapSeq_app, e]
  exact h _ _ (F.change (Heap.SameBut.update ..) hm.2.1 hm.2.2) (N.setIn (own := []) (fun _ h => nomatch h) hap (Heap.SameBut.update ..) ho') (hi.append hj)
end
end Mine

-- part C3

namespace Mine
open PySem PySem.W PyProof.Rows PySem.Calls PySem.Spec
set_option maxRecDepth 100000
set_option maxHeartbeats 8000000
theorem calm_C3 : True := by
  w_top off
  exact trivial
structure Hold (P : Prop) : Prop where
  out : P
theorem hold {P : Prop} (h : Hold P) : P := h.out
theorem unhold {P : Prop} (h : P) : Hold P := ⟨h⟩

abbrev prog := PySem.Challenge.rw_bp0001_01.row.toRowW.prog

theorem nameG_B {M : Model} {A : Around} {E : Value → Shared → Prop} {s : Shared} {env : Env} {h₀ : Heap} {L : Addr} {m : Str → Option Value} {K : Frag} {mg mb : Str → Option Value} {p : Program} {loose : List Str} {x : Str} {pos : Pos} {v : Value} {Q : Value → Shared → Prop} (F : Fr h₀ L s.heap m) (X : K.In h₀) (T : TopRead p loose mg mb h₀)
    (e : nsIn K mainGlobals x = some none) (hv : bootBuiltins x = some v) (hn : x ≠ "__name__") (h : Q v s) (hg : env.globals = mainGlobals) (hb : env.builtins = builtinsNs) (hk : env.scope.kind = .function) (hx : env.kindOf x = some .globalImplicit) (hd : (x == ("__debug__" : Str)) = false) :
    wpAny M A (eval (.Name x pos) env) Q E s :=
  Name_function_global hk hx (loadGlobal_builtin (env := env) (by rw [hg]; exact T.g.keeps F.keep) (mg_none_of X T.g e) (by rw [hb]; exact T.b.keeps F.keep) ((T.builtins x hn).trans hv) h) hd
local macro_rules | `(tactic| walk_at "eval Name") => `(tactic| (k_here; k_inBlock; (refine' Mine.nameG_B ?F ?X ?T ?e ?v ?n ?_ ?g ?b ?k ?x ?d; (case g => rfl); (case b => rfl); (case k => rfl); (case x => rfl); (case d => decide); (case F => k_asm); (case X => k_asm); (case T => k_asm); (case e => k_is); (case v => boot_fast); (case n => decide); k_whole)))
local macro_rules | `(tactic| walk_at "eval ListComp") => `(tactic| (k_here; refine Mine.hold ?_))
local macro_rules | `(tactic| walk_at "exec Assign cons ListComp") => `(tactic| (k_here; refine Mine.hold ?_))

theorem keeps_tok {h : Heap} {g : _} {d : _} {t t' : Nat} {o : _} : Keeps { heap := h, gens := g, drawn := d, toks := t, os := o } { heap := h, gens := g, drawn := d, toks := t', os := o } := ⟨h, t', rfl, fun _ _ e => e⟩
theorem keeps_push {h : Heap} {g : _} {d : _} {t t' : Nat} {o : _} {ob : Obj} : Keeps { heap := h, gens := g, drawn := d, toks := t, os := o } { heap := h.push ob, gens := g, drawn := d, toks := t', os := o } := ⟨_, t', rfl, fun _ _ e => Heap.get?_push_of_some _ e⟩
abbrev bitAt (fb : Int) (v : Int) (k : Nat) : Int := (v.fdiv (2 ^ (fb - 1 - ((k : Nat) : Int)).toNat)).fmod 2
def bitsOf (fb : Int) (ns : List Int) : List Int := ns.flatMap fun a => (List.range fb.toNat).map (bitAt fb a)

def cutDef : Option (List Stmt × Scope) := match PySem.Challenge.pw_bp0001_01.main.body with
  | [_, _, _, .FunctionDef _ _ body _ _ _ scope _ _ _, _] => some (body, scope)
  | _ => none
def cutScope : Scope := match cutDef with | some (_, s) => s | none => default
def cutTail : List Stmt := match cutDef with | some (b, _) => b.drop 3 | none => []

def cutRest (fb tb : Int) (Bs : List Int) : Option (List Int) :=
  if 0 < (Bs.length : Int).fmod tb ∧ (fb ≤ (Bs.length : Int).fmod tb ∨ 0 < (Bs.drop (Bs.length - ((Bs.length : Int).fmod tb).toNat)).sum) then none
  else some ((List.range (Bs.length / tb.toNat)).map fun j => ((List.range tb.toNat).map fun k => Bs.getD (j * tb.toNat + k) 0 * 2 ^ (tb.toNat - 1 - k)).sum)

local macro_rules | `(tactic| walk_at "Exists") => `(tactic| (refine Mine.hold ?_))
local macro_rules | `(tactic| walk_at "And") => `(tactic| (refine Mine.hold ?_))

theorem rsz {len left tb : Int} {n : Nat} (ht1 : 1 ≤ tb) (hdiv : len - left = n * tb) : Builtin.Range.rangeSize 0 (len - left) tb = (n : Int) := by
  have h0 : (0 : Int) ≤ (n : Int) * tb := Int.mul_nonneg (by omega) (by omega)
  rw [rangeSize_pos ht1 (by omega), hdiv, show (n : Int) * tb + tb - 1 = (tb - 1) + (n : Int) * tb by omega, Int.add_mul_ediv_right _ _ (by omega), Int.ediv_eq_zero_of_lt (by omega) (by omega)]
  omega
theorem rsm {len left tb : Int} {n : Nat} (ht1 : 1 ≤ tb) (ht2 : tb ≤ 12) (h0 : 0 ≤ left) (h1 : left ≤ len) (h2 : len ≤ 12100) (hdiv : len - left = n * tb) (hn : n ≤ 12100) : Builtin.Range.small 0 (len - left) tb = true := by
  unfold Builtin.Range.small
  rw [rsz ht1 hdiv]
  simp only [Builtin.Range.rangeFitsLong, Bool.and_eq_true, Bool.or_eq_true, decide_eq_true_eq, beq_iff_eq]
  refine ⟨⟨⟨⟨by omega, by omega⟩, by omega⟩, by omega⟩, .inr ?_⟩
  rw [if_pos (by omega)]
  simp only [Bool.and_eq_true, decide_eq_true_eq]
  omega
theorem getD_bit {Bs : List Int} (h : ∀ b ∈ Bs, 0 ≤ b ∧ b ≤ 1) (j : Nat) : 0 ≤ Bs.getD j 0 ∧ Bs.getD j 0 ≤ 1 := by
  by_cases hj : j < Bs.length
  · rw [List.getD_eq_getElem?_getD, List.getElem?_eq_getElem hj]
    exact h _ (List.getElem_mem hj)
  · rw [List.getD_eq_getElem?_getD, List.getElem?_eq_none (by omega)]
    simp
theorem pow_le12 {k : Nat} (h : k ≤ 12) : (2 : Int) ^ k ≤ 4096 := by
  have h1 : (2 : Nat) ^ k ≤ 2 ^ 12 := Nat.pow_le_pow_right (by decide) h
  rw [← kbt_cast]
  omega
theorem keep_refl {h : Heap} : ∀ b o, h.get? b = some o → h.get? b = some o := fun _ _ e => e
theorem keeps_of {h h' : Heap} {g : _} {d : _} {t t' : Nat} {o : _} (hk : ∀ b ob, h.get? b = some ob → h'.get? b = some ob) : Keeps { heap := h, gens := g, drawn := d, toks := t, os := o } { heap := h', gens := g, drawn := d, toks := t', os := o } := ⟨h', t', rfl, hk⟩
theorem idx_in {left tb : Int} {n k i : Nat} {m : Nat} (ht : 0 ≤ tb) (h0 : 0 ≤ left) (hdiv : (m : Int) - left = n * tb) (hk : k < n) (hi : i < tb.toNat) : k * tb.toNat + i < m := by
  have h1 : (k + 1) * tb.toNat ≤ n * tb.toNat := Nat.mul_le_mul_right _ hk
  have h2 : ((n * tb.toNat : Nat) : Int) = n * tb := by rw [Int.natCast_mul, Int.toNat_of_nonneg ht]
  rw [Nat.add_mul, Nat.one_mul] at h1
  omega
theorem nsmall {len left tb : Int} {n : Nat} (ht1 : 1 ≤ tb) (h0 : 0 ≤ left) (h2 : len ≤ 12100) (hdiv : len - left = n * tb) : n ≤ 12100 := by
  have : (n : Int) * 1 ≤ (n : Int) * tb := Int.mul_le_mul_of_nonneg_left ht1 (by omega)
  omega
def cutComp : Expr := match cutDef with
  | some ([_, _, _, _, _, .Return (some e) _], _) => e
  | _ => .Constant .none 0 ⟨0, 0, 0, 0⟩

theorem cut_comp {w : World} {mean : ExcName → Option Value} {mg mb : Str → Option Value} {dp un : Nat} {gd : Option (List Code)} {cn : Str} {cs : Scope} {a : Addr} {ccd : Value} {cl : List (Str × Addr)} {outer : List Env} {L L' : Addr} {g' : Heap} {m₁ : Str → Option Value} {news : List (Addr × Obj)} {s : Shared}
    {D : Addr} {zs : List Value} {nD : Nat} {o1 o2 o3 : Obj} {Bs : List Int} {left tb : Int} {t1 t2 : Tok} {n : Nat} {Q : Value → Shared → Prop} {E : Value → Shared → Prop}
    (X : (hd.heap_39 w.params).In g') (T : Top hd.view_39 (looseW hd.view_39 [Str.ofString "convertbits"]) mean mg mb g')
    (F : Fr g' L' s.heap (fun y => if y = Str.ofString "left" then some (.int left t1) else m₁ y)) (N : News g' L' s.heap ((D, listOf zs.toArray nD) :: (L' + 1 + 1 + 1, o1) :: (L' + 1 + 1, o2) :: (L' + 1, o3) :: news))
    (e1 : o1.data = .cell (some (.ref D))) (e2 : o2.data = .cell (some (.int tb t2)))
    (hzs : IntsAre zs Bs) (hBl : Bs.length ≤ 12100) (hbit : ∀ b ∈ Bs, 0 ≤ b ∧ b ≤ 1) (ht1 : 1 ≤ tb) (ht2 : tb ≤ 12) (hl0 : 0 ≤ left) (hl1 : left ≤ Bs.length) (hdiv : (Bs.length : Int) - left = n * tb)
    (hS : ∀ D' zs' n' h' tk', Fr g' L' h' (fun y => if y = Str.ofString "left" then some (.int left t1) else m₁ y) → News g' L' h' ((D', listOf zs'.toArray n') :: (D, listOf zs.toArray nD) :: (L' + 1 + 1 + 1, o1) :: (L' + 1 + 1, o2) :: (L' + 1, o3) :: news) → (∀ p ∈ ((D, listOf zs.toArray nD) :: (L' + 1 + 1 + 1, o1) :: (L' + 1 + 1, o2) :: (L' + 1, o3) :: news), p.1 < D') →
      IntsAre zs' ((List.range n).map fun j => ((List.range tb.toNat).map fun k => Bs.getD (j * tb.toNat + k) 0 * 2 ^ (tb.toNat - 1 - k)).sum) → Q (.ref D') { s with heap := h', toks := tk' }) :
    wpAny (model PySem.Challenge.rw_bp0001_01.row.prog w) ((ktrTop dp un gd cn cs L a ccd cl outer).deeper (envOfC (Str.ofString "_law_cut") cutScope L' 27 (.ref 26))) (eval cutComp (envOfC (Str.ofString "_law_cut") cutScope L' 27 (.ref 26))) Q E s := by
  revert X
  k_fill
  intro X
  have kMk : KstMark := kstMark
  dsimp only [cutComp, cutScope, cutDef, PySem.Challenge.pw_bp0001_01]
  refine' ListCompCell (h₀ := g') (L := L') (m := (fun y => if y = Str.ofString "left" then some (.int left t1) else m₁ y)) (news := (D, listOf zs.toArray nD) :: (L' + 1 + 1 + 1, o1) :: (L' + 1 + 1, o2) :: (L' + 1, o3) :: news) (n := n) (step := tb) (fun j => ((List.range tb.toNat).map fun k => Bs.getD (j * tb.toNat + k) 0 * 2 ^ (tb.toNat - 1 - k)).sum) ?q1 ?q2 ?q3 ?q4 ?q5 ?q6 ?q7 ?qh ?q9
  case q1 => with_unfolding_all rfl
  case q2 => with_unfolding_all rfl
  case q3 => intro _ _; with_unfolding_all rfl
  case q4 => intro _; with_unfolding_all rfl
  case q5 => with_unfolding_all rfl
  case q6 => decide
  case q7 => with_unfolding_all rfl
  case q9 => intro _; with_unfolding_all rfl
  case qh =>
    k_steps
    rename IsRange _ _ _ _ _ _ _ _ => hr
    rename News _ _ _ _ => lN
    rename Fr _ _ _ _ => lF
    refine unhold ⟨_, _, _, _, _, rfl, hr, ?_, ?_, ?_, lF, lN, ?_, ?_⟩
    · exact rsm ht1 ht2 hl0 hl1 (by omega) hdiv (nsmall ht1 hl0 (by omega) hdiv)
    · exact rsz ht1 hdiv
    · have := nsmall ht1 hl0 (by omega) hdiv
      rw [sizeLine_eq]
      omega
    · intro C c k t s₂ m₂ E' hC hc hk hns hcell hkeep
      have F₃ := frInComp hns hkeep hC
      obtain ⟨oc, hoc, hocd⟩ := hcell
      have N₃ := lN.grown hkeep
      have X₃ := X.keeps lF.keep
      have T₃ := T.keeps lF.keep
      have N₄ : News g' L' s₂.heap ((c, oc) :: (D, listOf zs.toArray nD) :: (L' + 1 + 1 + 1, o1) :: (L' + 1 + 1, o2) :: (L' + 1, o3) :: news) := by
        intro p hp
        rcases List.mem_cons.mp hp with rfl | hp
        · have hLc : @LT.lt Nat _ L' c := Nat.lt_of_lt_of_le lF.ns.lt hc
          refine ⟨hoc, ne_lt (by omega), ?_⟩
          cases e : g'.get? c with
          | none => rfl
          | some o' =>
            have h2 : @LT.lt Nat _ c g'.objs.size := Heap.lt_size e
            have h3 : @LE.le Nat _ g'.objs.size L' := lF.above
            omega
        · exact N₃ p hp
      clear N₃ lN lF
      k_steps
      refine unhold ?_
      refine' ListCompR (n := tb.toNat) (fun i => Bs.getD (k * tb.toNat + i) 0 * 2 ^ (tb.toNat - 1 - i)) ?q1 ?q2 ?q3 ?q4 ?q5 ?q6 ?qh ?q9
      case q1 => with_unfolding_all rfl
      case q2 => with_unfolding_all rfl
      case q3 => decide
      case q4 => with_unfolding_all rfl
      case q5 => decide
      case q6 => with_unfolding_all rfl
      case q9 => intro _; with_unfolding_all rfl
      case qh =>
        k_steps
        refine call_range_1 ?_
        refine' ⟨_, _, _, _, rfl, (by rw [Int.toNat_of_nonneg (show 0 ≤ tb by omega)]; exact IsRange.new ..), by omega, (by rw [sizeLine_eq]; omega), ?_, ?_⟩
        · intro C' i t' s₃ m₃ E'' hC' hi hns' hmx' hkeep'
          have keep23 : ∀ b o, s₂.heap.get? b = some o → s₃.heap.get? b = some o := fun b o e => hkeep' b o (Heap.get?_push_of_some _ e)
          have F₅ := frInComp hns' hkeep' hC'
          have N₅ := N₄.grown keep23
          have hid : (((k : Nat) * tb.toNat + i : Nat) : Int) = (k : Int) * tb + (i : Int) := by
            rw [Int.natCast_add, Int.natCast_mul, Int.toNat_of_nonneg (by omega)]
          have hin : k * tb.toNat + i < Bs.length := idx_in (by omega) hl0 hdiv hk hi
          have hbb : 0 ≤ Bs.getD ((k : Int) * tb + (i : Int)).toNat 0 ∧ Bs.getD ((k : Int) * tb + (i : Int)).toNat 0 ≤ 1 := getD_bit hbit _
          have hgo : Bs.getD ((k : Int) * tb + (i : Int)).toNat 0 * 2 ^ (tb - 1 - (i : Int)).toNat = Bs.getD (k * tb.toNat + i) 0 * 2 ^ (tb.toNat - 1 - i) := by
            rw [← hid, Int.toNat_natCast, show (tb - 1 - (i : Int)).toNat = tb.toNat - 1 - i by omega]
          have hpw : (2 : Int) ^ (tb - 1 - (i : Int)).toNat ≤ 4096 := pow_le12 (by omega)
          have hpp : (0 : Int) < 2 ^ (tb - 1 - (i : Int)).toNat := kbt_pos _
          clear N₄ F₃
          k_steps
          refine unhold ?_
          rw [hgo]
          exact ⟨⟨_, rfl⟩, keeps_of keep_refl⟩
        · intro D₆ zs₆ h₆ tk₆ hl₆ hk₆ hi₆
          k_steps
          refine sumKeep (by with_unfolding_all rfl) hl₆ hi₆ fun h₇ tk₇ t₇ hk₇ => ?_
          exact ⟨⟨_, rfl⟩, keeps_of fun b o e => hk₇ b o (hk₆ b o (Heap.get?_push_of_some _ e))⟩
    · intro D₅ zs₅ n₅ h₅ tk₅ F₅ N₅ hlt₅ hi₅
      exact hS D₅ zs₅ n₅ h₅ tk₅ F₅ N₅ hlt₅ hi₅
end Mine

-- part P2
namespace Mine
open PySem PySem.W PyProof.Rows
theorem bigV_app (f : Nat) (xs ys : List Int) : bigV f (xs ++ ys) = bigV f xs * 2 ^ (f * ys.length) + bigV f ys := by
  induction ys using snoc_ind with
  | h0 => simp [bigV]
  | h1 l n ih =>
    rw [← List.append_assoc, bigV_snoc, ih, bigV_snoc, List.length_append, List.length_singleton, Nat.mul_add, Nat.mul_one, Int.pow_add, Int.add_mul, Int.mul_assoc]
    omega
theorem fits_app {f : Nat} {xs ys : List Int} : Fits f (xs ++ ys) ↔ Fits f xs ∧ Fits f ys := by
  unfold Fits
  constructor
  · intro h
    exact ⟨fun v hv => h v (List.mem_append_left _ hv), fun v hv => h v (List.mem_append_right _ hv)⟩
  · rintro ⟨h1, h2⟩ v hv
    exact (List.mem_append.mp hv).elim (h1 v) (h2 v)
theorem digs_get {t : Nat} {V : Int} {T q j : Nat} (hj : j < q) : (digs t V T q).getD j 0 = V / 2 ^ (T - t * (j + 1)) % 2 ^ t := by
  unfold digs
  rw [List.getD_eq_getElem?_getD, List.getElem?_map, List.getElem?_range hj]
  rfl
theorem bit_get {Bs : List Int} (h : Fits 1 Bs) {i : Nat} (hi : i < Bs.length) : Bs.getD i 0 = bigV 1 Bs / 2 ^ (Bs.length - (i + 1)) % 2 := by
  have e := digs_self Bs h
  have e2 : Bs.getD i 0 = (digs 1 (bigV 1 Bs) (1 * Bs.length) Bs.length).getD i 0 := by rw [e]
  rw [e2, digs_get hi, Nat.one_mul, Nat.one_mul, Int.pow_succ, Int.pow_zero, Int.one_mul]
theorem sum_bits (U : Int) : ∀ t : Nat, ((List.range t).map fun k => (U / 2 ^ (t - 1 - k) % 2) * 2 ^ (t - 1 - k)).sum = U % 2 ^ t
  | 0 => by simp [Int.emod_one]
  | t + 1 => by
    have ih := sum_bits (U / 2) t
    have e : ∀ k ∈ List.range t, (U / 2 ^ (t + 1 - 1 - k) % 2) * 2 ^ (t + 1 - 1 - k) = ((U / 2 / 2 ^ (t - 1 - k) % 2) * 2 ^ (t - 1 - k)) * 2 := by
      intro k hk
      have hk := List.mem_range.mp hk
      have e1 : t + 1 - 1 - k = 1 + (t - 1 - k) := by omega
      have e2 : U / 2 = U / 2 ^ 1 := by rw [Int.pow_succ, Int.pow_zero, Int.one_mul]
      rw [e2, dd, e1, Int.mul_assoc, ← Int.pow_succ, Nat.succ_eq_add_one, Nat.add_comm (t - 1 - k) 1]
    have em : ∀ l : List Int, (l.map fun x => x * 2).sum = l.sum * 2 := by
      intro l
      induction l with
      | nil => rfl
      | cons a r ih => rw [List.map_cons, List.sum_cons, ih, List.sum_cons, Int.add_mul]
    rw [List.range_succ, List.map_append, List.sum_append, List.map_congr_left e]
    have e3 : ((List.range t).map fun k => ((U / 2 / 2 ^ (t - 1 - k) % 2) * 2 ^ (t - 1 - k)) * 2) = (((List.range t).map fun k => (U / 2 / 2 ^ (t - 1 - k) % 2) * 2 ^ (t - 1 - k)).map fun x => x * 2) := by
      rw [List.map_map]
      rfl
    rw [e3, em, ih]
    have e4 : t + 1 - 1 - t = 0 := by omega
    simp only [List.map_cons, List.map_nil, List.sum_cons, List.sum_nil, e4, Int.pow_zero, Int.ediv_one, Int.mul_one, Int.add_zero]
    have h1 : U % 2 ^ (t + 1) = (U / 2 % 2 ^ t) * 2 + U % 2 := by
      have a1 := Int.emod_add_mul_ediv U (2 ^ (t + 1))
      have a2 := Int.emod_add_mul_ediv (U / 2) (2 ^ t)
      have a3 : U / 2 / 2 ^ t = U / 2 ^ (t + 1) := by
        have e2 : U / 2 = U / 2 ^ 1 := by rw [Int.pow_succ, Int.pow_zero, Int.one_mul]
        rw [e2, dd, Nat.add_comm]
      rw [a3] at a2
      rw [Int.pow_succ] at a1 ⊢
      have a4 : (2 : Int) ^ t * 2 * (U / (2 ^ t * 2)) = (2 ^ t * (U / (2 ^ t * 2))) * 2 := by rw [Int.mul_assoc, Int.mul_comm 2, ← Int.mul_assoc]
      rw [Int.pow_succ] at a2
      omega
    omega

theorem chunk_sum {Bs : List Int} (h : Fits 1 Bs) {t j : Nat} (hj : t * (j + 1) ≤ Bs.length) :
    ((List.range t).map fun k => Bs.getD (j * t + k) 0 * 2 ^ (t - 1 - k)).sum = bigV 1 Bs / 2 ^ (Bs.length - t * (j + 1)) % 2 ^ t := by
  rw [← sum_bits]
  congr 1
  refine List.map_congr_left fun k hk => ?_
  have hk := List.mem_range.mp hk
  have e0 : t * (j + 1) = j * t + t := by rw [Nat.mul_add, Nat.mul_one, Nat.mul_comm]
  rw [bit_get h (by omega), dd, show Bs.length - t * (j + 1) + (t - 1 - k) = Bs.length - (j * t + k + 1) by omega]

theorem sum_pos_iff (xs : List Int) : Fits 1 xs → (0 ≤ xs.sum ∧ 0 ≤ bigV 1 xs ∧ (0 < xs.sum ↔ bigV 1 xs ≠ 0)) := by
  induction xs using snoc_ind with
  | h0 => intro _; simp [bigV]
  | h1 l n ih =>
    intro h
    obtain ⟨hl, hn0, hn1⟩ := fits_snoc.mp h
    obtain ⟨i0, i1, i2⟩ := ih hl
    rw [bigV_snoc, List.sum_append, Int.pow_succ, Int.pow_zero, Int.one_mul]
    have e : [n].sum = n := by simp
    rw [e]
    refine ⟨by omega, by omega, ?_⟩
    constructor
    · intro hh hc
      have h3 : bigV 1 l = 0 := by omega
      have h4 : ¬ (0 < l.sum) := fun q => (i2.mp q) h3
      omega
    · intro hh
      by_cases h3 : bigV 1 l = 0
      · omega
      · have := i2.mpr h3
        omega

theorem rest_mod {Bs : List Int} (h : Fits 1 Bs) {l : Nat} (hl : l ≤ Bs.length) : bigV 1 (Bs.drop (Bs.length - l)) = bigV 1 Bs % 2 ^ l := by
  have e := List.take_append_drop (Bs.length - l) Bs
  have hf := h
  rw [← e] at hf
  obtain ⟨_, h2⟩ := fits_app.mp hf
  have hlen : (Bs.drop (Bs.length - l)).length = l := by rw [List.length_drop]; omega
  obtain ⟨b0, b1⟩ := bigV_bound _ h2
  rw [hlen, Nat.one_mul] at b1
  have e3 : bigV 1 Bs = bigV 1 (Bs.take (Bs.length - l)) * 2 ^ l + bigV 1 (Bs.drop (Bs.length - l)) := by
    have := bigV_app 1 (Bs.take (Bs.length - l)) (Bs.drop (Bs.length - l))
    rw [e, hlen, Nat.one_mul] at this
    exact this
  rw [e3, sh_mod b0 b1]

theorem mod_iff (V : Int) {l t : Nat} (h : l ≤ t) : V * 2 ^ (t - l) % 2 ^ t = V % 2 ^ l * 2 ^ (t - l) := by
  have e : (2 : Int) ^ t = 2 ^ (t - l) * 2 ^ l := by rw [← Int.pow_add]; congr 1; omega
  rw [e, Int.mul_comm V, Int.mul_emod_mul_of_pos _ _ (p2 _), Int.mul_comm]

theorem cutRest_eq {fb tb : Int} {Bs : List Int} (hf1 : 1 ≤ fb) (ht1 : 1 ≤ tb) (h : Fits 1 Bs) :
    cutRest fb tb Bs = if 0 < Bs.length % tb.toNat ∧ (fb.toNat ≤ Bs.length % tb.toNat ∨ bigV 1 Bs * 2 ^ (tb.toNat - Bs.length % tb.toNat) % 2 ^ tb.toNat ≠ 0) then none else some (digs tb.toNat (bigV 1 Bs) Bs.length (Bs.length / tb.toNat)) := by
  have et : ((tb.toNat : Nat) : Int) = tb := Int.toNat_of_nonneg (by omega)
  have em : ((Bs.length : Int)).fmod tb = ((Bs.length % tb.toNat : Nat) : Int) := by
    rw [Int.fmod_eq_emod_of_nonneg _ (by omega), Int.natCast_emod, et]
  unfold cutRest
  rw [em]
  generalize hb : Bs.length % tb.toNat = b
  have hbt : b < tb.toNat := by rw [← hb]; exact Nat.mod_lt _ (by omega)
  have hbl : b ≤ Bs.length := by rw [← hb]; exact Nat.mod_le _ _
  have hlist : ((List.range (Bs.length / tb.toNat)).map fun j => ((List.range tb.toNat).map fun k => Bs.getD (j * tb.toNat + k) 0 * 2 ^ (tb.toNat - 1 - k)).sum) = digs tb.toNat (bigV 1 Bs) Bs.length (Bs.length / tb.toNat) := by
    unfold digs
    refine List.map_congr_left fun j hj => ?_
    have hj := List.mem_range.mp hj
    exact chunk_sum h (Nat.le_trans (Nat.mul_le_mul_left _ hj) (Nat.mul_div_le _ _))
  rw [hlist]
  have hd : Fits 1 (Bs.drop (Bs.length - b)) := fun v hv => h v (List.mem_of_mem_drop hv)
  have hs := (sum_pos_iff _ hd).2.2
  rw [rest_mod h hbl] at hs
  have hcond : (0 < ((b : Nat) : Int) ∧ (fb ≤ ((b : Nat) : Int) ∨ 0 < (Bs.drop (Bs.length - ((b : Nat) : Int).toNat)).sum)) ↔ (0 < b ∧ (fb.toNat ≤ b ∨ bigV 1 Bs * 2 ^ (tb.toNat - b) % 2 ^ tb.toNat ≠ 0)) := by
    rw [Int.toNat_natCast, hs, mod_iff _ (by omega)]
    have hp := p2 (tb.toNat - b)
    have hz : bigV 1 Bs % 2 ^ b ≠ 0 ↔ bigV 1 Bs % 2 ^ b * 2 ^ (tb.toNat - b) ≠ 0 := by
      constructor
      · intro q1 q2
        rcases Int.mul_eq_zero.mp q2 with q | q
        · exact q1 q
        · omega
      · intro q1 q2
        exact q1 (by rw [q2, Int.zero_mul])
    rw [← hz]
    constructor
    · rintro ⟨a1, a2⟩
      exact ⟨by omega, a2.imp (by omega) id⟩
    · rintro ⟨a1, a2⟩
      exact ⟨by omega, a2.imp (by omega) id⟩
  by_cases hc : 0 < b ∧ (fb.toNat ≤ b ∨ bigV 1 Bs * 2 ^ (tb.toNat - b) % 2 ^ tb.toNat ≠ 0)
  · rw [if_pos hc, if_pos (hcond.mpr hc)]
  · rw [if_neg hc, if_neg (fun q => hc (hcond.mp q))]

theorem bitsOf_one {fb n : Int} (hf1 : 1 ≤ fb) : (List.range fb.toNat).map (bitAt fb n) = digs 1 n (1 * fb.toNat) fb.toNat := by
  unfold digs
  refine List.map_congr_left fun k hk => ?_
  have hk := List.mem_range.mp hk
  unfold bitAt
  rw [Int.fmod_eq_emod_of_nonneg _ (by decide), Int.fdiv_eq_ediv_of_nonneg _ (Int.le_of_lt (p2 _)), show (fb - 1 - (k : Int)).toNat = 1 * fb.toNat - 1 * (k + 1) by omega, Int.pow_succ 2 0, Int.pow_zero, Int.one_mul]
theorem bitsOf_snoc (fb : Int) (l : List Int) (n : Int) : bitsOf fb (l ++ [n]) = bitsOf fb l ++ (List.range fb.toNat).map (bitAt fb n) := by
  unfold bitsOf
  rw [List.flatMap_append]
  simp
theorem bitsOf_len (fb : Int) (ns : List Int) : (bitsOf fb ns).length = fb.toNat * ns.length := by
  unfold bitsOf
  rw [flat_len, Nat.mul_comm]
theorem bitsOf_fits {fb : Int} (hf1 : 1 ≤ fb) (ns : List Int) : Fits 1 (bitsOf fb ns) := by
  induction ns using snoc_ind with
  | h0 => intro v hv; simp [bitsOf] at hv
  | h1 l n ih =>
    rw [bitsOf_snoc, bitsOf_one hf1]
    exact fits_app.mpr ⟨ih, digs_fits _ _ _ _⟩
theorem bitsOf_val {fb : Int} (hf1 : 1 ≤ fb) (ns : List Int) : Fits fb.toNat ns → bigV 1 (bitsOf fb ns) = bigV fb.toNat ns := by
  induction ns using snoc_ind with
  | h0 => intro _; rfl
  | h1 l n ih =>
    intro h
    obtain ⟨hl, hn0, hn1⟩ := fits_snoc.mp h
    rw [bitsOf_snoc, bigV_app, ih hl, bigV_snoc, bitsOf_one hf1, digs_len, Nat.one_mul]
    have := bigV_digs (t := 1) fb.toNat n hn0 (by rw [Nat.one_mul]; exact hn1)
    rw [Nat.one_mul] at this
    rw [this]

theorem conv_fit {fb tb : Int} {ns : List Int} {pad : Bool} (hz : Fits fb.toNat ns) : conv ns fb tb pad =
    if pad then (if (fb.toNat * ns.length) % tb.toNat = 0 then some (digs tb.toNat (bigV fb.toNat ns) (fb.toNat * ns.length) (fb.toNat * ns.length / tb.toNat)) else some (digs tb.toNat (bigV fb.toNat ns) (fb.toNat * ns.length) (fb.toNat * ns.length / tb.toNat) ++ [bigV fb.toNat ns * 2 ^ (tb.toNat - (fb.toNat * ns.length) % tb.toNat) % 2 ^ tb.toNat]))
    else if fb.toNat ≤ (fb.toNat * ns.length) % tb.toNat ∨ bigV fb.toNat ns * 2 ^ (tb.toNat - (fb.toNat * ns.length) % tb.toNat) % 2 ^ tb.toNat ≠ 0 then none else some (digs tb.toNat (bigV fb.toNat ns) (fb.toNat * ns.length) (fb.toNat * ns.length / tb.toNat)) := by
  unfold conv convN
  dsimp only
  rw [if_pos hz]

theorem cut_conv_no {fb tb : Int} {ns : List Int} (hf1 : 1 ≤ fb) (ht1 : 1 ≤ tb) (hz : Fits fb.toNat ns) : cutRest fb tb (bitsOf fb ns) = conv ns fb tb false := by
  rw [cutRest_eq hf1 ht1 (bitsOf_fits hf1 ns), bitsOf_len, bitsOf_val hf1 ns hz]
  have e := conv_fit (tb := tb) (pad := false) hz
  simp only [Bool.false_eq_true, if_false] at e
  rw [e]
  generalize fb.toNat * ns.length = T
  by_cases hb : T % tb.toNat = 0
  · rw [if_neg (by omega), if_neg]
    rintro (q | q)
    · omega
    · rw [hb, Nat.sub_zero, Int.mul_emod_left] at q
      exact q rfl
  · by_cases hc : fb.toNat ≤ T % tb.toNat ∨ bigV fb.toNat ns * 2 ^ (tb.toNat - T % tb.toNat) % 2 ^ tb.toNat ≠ 0
    · rw [if_pos hc, if_pos ⟨by omega, hc⟩]
    · rw [if_neg hc, if_neg (fun q => hc q.2)]

theorem flat_rep (p : Nat) : (List.replicate p [(0 : Int)]).flatten = List.replicate p 0 := by
  induction p with
  | zero => rfl
  | succ p ih => rw [List.replicate_succ, List.flatten_cons, ih, List.replicate_succ]; rfl
theorem bigV_rep (p : Nat) : bigV 1 (List.replicate p 0) = 0 := by
  induction p with
  | zero => rfl
  | succ p ih =>
    rw [show List.replicate (p + 1) (0 : Int) = List.replicate p 0 ++ [0] from List.replicate_succ', bigV_snoc, ih]
    simp
theorem fits_rep (p : Nat) : Fits 1 (List.replicate p 0) := by
  intro v hv
  rw [(List.mem_replicate.mp hv).2]
  exact ⟨by decide, by decide⟩

/-- how many noughts the padding lays on -/
def padN (T t : Nat) : Nat := if T % t = 0 then 0 else t - T % t
theorem padN_mod {T t : Nat} (ht : 1 ≤ t) : (T + padN T t) % t = 0 ∧ padN T t < t := by
  have h1 : T % t < t := Nat.mod_lt _ (by omega)
  have h2 := Nat.mod_add_div T t
  unfold padN
  split
  · exact ⟨by rw [Nat.add_zero]; assumption, by omega⟩
  · refine ⟨?_, by omega⟩
    have : T + (t - T % t) = t * (T / t + 1) := by rw [Nat.mul_add, Nat.mul_one]; omega
    rw [this]
    exact Nat.mul_mod_right _ _
theorem padN_int {T : Nat} {tb : Int} (ht1 : 1 ≤ tb) : ((-(T : Int)).fmod tb).toNat = padN T tb.toNat := by
  have et : ((tb.toNat : Nat) : Int) = tb := Int.toNat_of_nonneg (by omega)
  have h1 : T % tb.toNat < tb.toNat := Nat.mod_lt _ (by omega)
  have h2 := Nat.mod_add_div T tb.toNat
  rw [Int.fmod_eq_emod_of_nonneg _ (by omega)]
  have e : (-(T : Int)) % tb = ((padN T tb.toNat : Nat) : Int) := by
    have h3 : ((T : Nat) : Int) = ((T % tb.toNat : Nat) : Int) + tb * ((T / tb.toNat : Nat) : Int) := by
      have := congrArg (Nat.cast (R := Int)) h2
      rw [Int.natCast_add, Int.natCast_mul, et] at this
      exact this.symm
    unfold padN
    split
    · rename_i h0
      have : -(T : Int) = 0 + tb * (-((T / tb.toNat : Nat) : Int)) := by rw [Int.mul_neg]; omega
      rw [this, Int.add_mul_emod_self_left]
      simp
    · rename_i h0
      have : -(T : Int) = (((tb.toNat - T % tb.toNat : Nat)) : Int) + tb * (-((T / tb.toNat : Nat) : Int) - 1) := by rw [Int.mul_sub, Int.mul_neg, Int.mul_one]; omega
      rw [this, Int.add_mul_emod_self_left]
      exact Int.emod_eq_of_lt (by omega) (by omega)
  rw [e, Int.toNat_natCast]

/-- with padding: all digits of the number with the noughts behind -/
theorem conv_pad {fb tb : Int} {ns : List Int} (hf1 : 1 ≤ fb) (ht1 : 1 ≤ tb) (hz : Fits fb.toNat ns) :
    conv ns fb tb true = some (digs tb.toNat (bigV fb.toNat ns * 2 ^ padN (fb.toNat * ns.length) tb.toNat) (fb.toNat * ns.length + padN (fb.toNat * ns.length) tb.toNat) ((fb.toNat * ns.length + padN (fb.toNat * ns.length) tb.toNat) / tb.toNat)) := by
  rw [conv_fit hz, if_pos rfl]
  generalize bigV fb.toNat ns = V
  generalize fb.toNat * ns.length = T
  generalize ht : tb.toNat = t
  have ht1 : 1 ≤ t := by omega
  have h1 : T % t < t := Nat.mod_lt _ (by omega)
  have h2 := Nat.mod_add_div T t
  by_cases hb : T % t = 0
  · have e : padN T t = 0 := by unfold padN; rw [if_pos hb]
    rw [if_pos hb, e, Int.pow_zero, Int.mul_one, Nat.add_zero]
  · have e : padN T t = t - T % t := by unfold padN; rw [if_neg hb]
    have e2 : T + (t - T % t) = t * (T / t + 1) := by rw [Nat.mul_add, Nat.mul_one]; omega
    have e3 : t * (T / t) ≤ T := Nat.mul_div_le _ _
    rw [if_neg hb, e, e2, Nat.mul_div_cancel_left _ (by omega), digs_succ, ← e2, digs_up e3, e2, Nat.sub_self, Int.pow_zero, Int.ediv_one]

theorem cut_conv_pad {fb tb : Int} {ns : List Int} (hf1 : 1 ≤ fb) (ht1 : 1 ≤ tb) (hz : Fits fb.toNat ns) : cutRest fb tb (bitsOf fb ns ++ (List.replicate ((-((bitsOf fb ns).length : Int)).fmod tb).toNat [(0 : Int)]).flatten) = conv ns fb tb true := by
  rw [flat_rep, padN_int ht1, cutRest_eq hf1 ht1 (fits_app.mpr ⟨bitsOf_fits hf1 ns, fits_rep _⟩), conv_pad hf1 ht1 hz]
  rw [List.length_append, List.length_replicate, bigV_app, bigV_rep, bitsOf_len, bitsOf_val hf1 ns hz, List.length_replicate, Nat.one_mul, Int.add_zero, if_neg]
  rw [(padN_mod (by omega)).1]
  omega
end Mine

-- part P3
namespace Mine
open PySem PySem.W PyProof.Rows
theorem filter_fit {f : Nat} {ns : List Int} : ((ns.filter fun a => decide (a < 0) || decide (2 ^ f ≤ a)) = []) ↔ Fits f ns := by
  rw [List.filter_eq_nil_iff]
  unfold Fits
  constructor
  · intro h v hv
    have := h v hv
    simp only [Bool.or_eq_true, decide_eq_true_eq] at this
    omega
  · intro h v hv
    have := h v hv
    simp only [Bool.or_eq_true, decide_eq_true_eq]
    omega
theorem bad_nil {f : Nat} {ns : List Int} {ys : List Value} (hz : Fits f ns) (hi : IntsAre ys (ns.filter fun a => decide (a < 0) || decide (2 ^ f ≤ a))) : ys.toArray.isEmpty = true := by
  rw [filter_fit.mpr hz] at hi
  have := IntsAre.length hi
  cases ys with
  | nil => rfl
  | cons _ _ => simp at this
theorem bad_cons {f : Nat} {ns : List Int} {ys : List Value} (hz : ¬ Fits f ns) (hi : IntsAre ys (ns.filter fun a => decide (a < 0) || decide (2 ^ f ≤ a))) : ys.toArray.isEmpty = false := by
  have := IntsAre.length hi
  cases ys with
  | nil =>
    exact absurd (filter_fit.mp (List.length_eq_zero_iff.mp this.symm)) hz
  | cons _ _ => simp
theorem conv_unfit {fb tb : Int} {ns : List Int} {pad : Bool} (hz : ¬ Fits fb.toNat ns) : conv ns fb tb pad = none := by
  unfold conv convN
  dsimp only
  rw [if_neg hz]

theorem digs_tail {f n p : Nat} {V : Int} : ∀ k : Nat, f * k ≤ p → digs f (V * 2 ^ p) (f * n + p) (n + k) = digs f V (f * n) n ++ List.replicate k 0
  | 0, _ => by
    rw [Nat.add_zero, digs_up (Nat.le_refl _)]
    simp
  | k + 1, h => by
    have e0 : f * (k + 1) = f * k + f := by rw [Nat.mul_add, Nat.mul_one]
    have e1 : f * (n + k + 1) = f * n + f * k + f := by rw [Nat.mul_add, Nat.mul_add, Nat.mul_one]
    rw [show n + (k + 1) = n + k + 1 by omega, digs_succ, digs_tail k (by omega), List.append_assoc, show List.replicate (k + 1) (0 : Int) = List.replicate k 0 ++ [0] from List.replicate_succ']
    congr 3
    have e2 : f * n + p - f * (n + k + 1) = p - f * (k + 1) := by omega
    have e3 : p = (f * k + f) + (p - f * (k + 1)) := by omega
    rw [e2]
    have e4 : V * 2 ^ p = V * 2 ^ (f * k) * 2 ^ f * 2 ^ (p - f * (k + 1)) := by
      rw [Int.mul_assoc, Int.mul_assoc, ← Int.pow_add, ← Int.pow_add]
      congr 2
      omega
    rw [e4, Int.mul_ediv_cancel _ (Int.ne_of_gt (p2 _)), Int.mul_emod_left]

theorem conv_cases {wb ob : Int} {G : List Int} (hlen : G.length ≤ 48) (hw1 : 1 ≤ wb) (hw2 : wb ≤ 12) (ho1 : 1 ≤ ob) (ho2 : ob ≤ 12) :
    (conv G wb ob true = none ∧ conv G wb ob false = none) ∨ ∃ W zs, W.length < 1000 ∧ conv G wb ob true = some W ∧ conv W ob wb false = some (G ++ zs) ∧ zs.sum = 0 ∧ zs.length < 1000 := by
  by_cases hz : Fits wb.toNat G
  · refine .inr ?_
    have hc := conv_pad (tb := ob) hw1 ho1 hz
    have hf : 1 ≤ wb.toNat ∧ wb.toNat ≤ 12 := by omega
    have ht : 1 ≤ ob.toNat ∧ ob.toNat ≤ 12 := by omega
    obtain ⟨v0, v1⟩ := bigV_bound G hz
    have hs := digs_self G hz
    have hT : wb.toNat * G.length ≤ 12 * 48 := Nat.mul_le_mul hf.2 hlen
    obtain ⟨p1, p2'⟩ := padN_mod (T := wb.toNat * G.length) ht.1
    generalize hV : bigV wb.toNat G = V at hc v0 v1 hs
    generalize hp : padN (wb.toNat * G.length) ob.toNat = p at hc p1 p2'
    generalize hn : G.length = n at hc v1 hs hT p1
    have hw : Fits ob.toNat (digs ob.toNat (V * 2 ^ p) (wb.toNat * n + p) ((wb.toNat * n + p) / ob.toNat)) := digs_fits _ _ _ _
    have hq : ob.toNat * ((wb.toNat * n + p) / ob.toNat) = wb.toNat * n + p := by
      have := Nat.mod_add_div (wb.toNat * n + p) ob.toNat
      omega
    have hU0 : 0 ≤ V * 2 ^ p := Int.mul_nonneg v0 (Int.le_of_lt (p2 p))
    have hU1 : V * 2 ^ p < 2 ^ (wb.toNat * n + p) := by
      rw [Int.pow_add]
      exact Int.mul_lt_mul_of_pos_right v1 (p2 p)
    have hbv : bigV ob.toNat (digs ob.toNat (V * 2 ^ p) (wb.toNat * n + p) ((wb.toNat * n + p) / ob.toNat)) = V * 2 ^ p := by
      have := bigV_digs (t := ob.toNat) ((wb.toNat * n + p) / ob.toNat) (V * 2 ^ p) hU0 (by rw [hq]; exact hU1)
      rwa [hq] at this
    have hr := conv_fit (tb := wb) (pad := false) hw
    simp only [Bool.false_eq_true, if_false] at hr
    rw [hbv, digs_len, hq] at hr
    have hk := Nat.mod_add_div p wb.toNat
    have hkl : p % wb.toNat < wb.toNat := Nat.mod_lt _ (by omega)
    have hm : (wb.toNat * n + p) % wb.toNat = p % wb.toNat := by rw [Nat.mul_add_mod]
    have hd : (wb.toNat * n + p) / wb.toNat = n + p / wb.toNat := by rw [Nat.mul_add_div (by omega)]
    rw [hm, hd, digs_tail (p / wb.toNat) (Nat.mul_div_le _ _), hs, if_neg] at hr
    · refine ⟨_, List.replicate (p / wb.toNat) 0, ?_, hc, hr, ?_, ?_⟩
      · rw [digs_len]
        have := Nat.div_le_self (wb.toNat * n + p) ob.toNat
        omega
      · simp
      · rw [List.length_replicate]
        have := Nat.div_le_self p wb.toNat
        omega
    · rintro (q | q)
      · have := Nat.mod_le p wb.toNat
        omega
      · apply q
        have e : V * 2 ^ p * 2 ^ (wb.toNat - p % wb.toNat) = V * 2 ^ (p - p % wb.toNat) * 2 ^ wb.toNat := by
          rw [Int.mul_assoc, Int.mul_assoc, ← Int.pow_add, ← Int.pow_add]
          congr 2
          have := Nat.mod_le p wb.toNat
          omega
        rw [e, Int.mul_emod_left]
  · exact .inl ⟨conv_unfit hz, conv_unfit hz⟩
end Mine

-- part C4

namespace Mine
open PySem PySem.W PyProof.Rows PySem.Calls PySem.Spec
set_option maxRecDepth 100000
set_option maxHeartbeats 8000000
theorem calm_C4 : True := by
  w_top off
  exact trivial
local macro_rules | `(tactic| walk_at "eval ListComp") => `(tactic| (k_here; refine Mine.hold ?_))
local macro_rules | `(tactic| walk_at "exec Return some") => `(tactic| (k_here; refine Mine.hold ?_))
local macro_rules | `(tactic| walk_at "storeName") => `(tactic| (k_here; (with_reducible show wpAny _ _ (storeName _ (Str.ofString "left") _) _ _ _); refine Mine.hold ?_))
local macro_rules | `(tactic| walk_at "subscriptTail Name Slice ref ref") => `(tactic| (k_here; refine Mine.hold ?_))
theorem fmod_facts {len tb : Int} (h0 : 0 ≤ len) (ht : 1 ≤ tb) : 0 ≤ len.fmod tb ∧ len.fmod tb < tb ∧ len.fmod tb ≤ len := by
  rw [Int.fmod_eq_emod_of_nonneg _ (by omega)]
  exact ⟨Int.emod_nonneg _ (by omega), Int.emod_lt_of_pos _ (by omega), by have := Int.emod_add_mul_ediv len tb; have h1 := Int.ediv_nonneg h0 (show 0 ≤ tb by omega); have h2 := Int.mul_nonneg (show 0 ≤ tb by omega) h1; omega⟩
theorem left_div {n : Nat} {tb : Int} (ht : 1 ≤ tb) : (n : Int) - (n : Int).fmod tb = ((n / tb.toNat : Nat) : Int) * tb := by
  rw [Int.fmod_eq_emod_of_nonneg _ (by omega), Int.natCast_ediv, Int.toNat_of_nonneg (by omega)]
  have := Int.emod_add_mul_ediv (n : Int) tb
  rw [Int.mul_comm] at this
  omega
theorem cut_tail {w : World} {mean : ExcName → Option Value} {mg mb : Str → Option Value} {dp un : Nat} {gd : Option (List Code)} {cn : Str} {cs : Scope} {a : Addr} {ccd : Value} {cl : List (Str × Addr)} {outer : List Env} {L L' : Addr} {g' : Heap} {m₁ : Str → Option Value} {news : List (Addr × Obj)} {s : Shared}
    {D : Addr} {zs : List Value} {nD : Nat} {o1 o2 o3 : Obj} {Bs : List Int} {fb tb : Int} {t1 t2 : Tok} {Q : Flow → Shared → Prop} {E : Value → Shared → Prop}
    (X : (hd.heap_39 w.params).In g') (T : Top hd.view_39 (looseW hd.view_39 [Str.ofString "convertbits"]) mean mg mb g')
    (F : Fr g' L' s.heap m₁) (N : News g' L' s.heap ((D, listOf zs.toArray nD) :: (L' + 1 + 1 + 1, o1) :: (L' + 1 + 1, o2) :: (L' + 1, o3) :: news))
    (e1 : o1.data = .cell (some (.ref D))) (e2 : o2.data = .cell (some (.int tb t2))) (e3 : o3.data = .cell (some (.int fb t1)))
    (hzs : IntsAre zs Bs) (hBl : Bs.length ≤ 12100) (hbit : ∀ b ∈ Bs, 0 ≤ b ∧ b ≤ 1) (hf1 : 1 ≤ fb) (hf2 : fb ≤ 12) (ht1 : 1 ≤ tb) (ht2 : tb ≤ 12)
    (hN : cutRest fb tb Bs = none → ∀ h' tk' m', Fr g' L' h' m' → News g' L' h' news → Q (.ret .none) { s with heap := h', toks := tk' })
    (hS : ∀ out, cutRest fb tb Bs = some out → ∀ D' zs' n' h' tk' m', Fr g' L' h' m' → News g' L' h' ((D', listOf zs'.toArray n') :: news) → (∀ p ∈ news, p.1 < D') → IntsAre zs' out → Q (.ret (.ref D')) { s with heap := h', toks := tk' }) :
    wpAny (model PySem.Challenge.rw_bp0001_01.row.prog w) ((ktrTop dp un gd cn cs L a ccd cl outer).deeper (envOfC (Str.ofString "_law_cut") cutScope L' 27 (.ref 26))) (execs cutTail (envOfC (Str.ofString "_law_cut") cutScope L' 27 (.ref 26))) Q E s := by
  revert X
  k_fill
  intro X
  have kMk : KstMark := kstMark
  dsimp only [cutTail, cutScope, cutDef, PySem.Challenge.pw_bp0001_01, List.drop_succ_cons, List.drop_zero]
  obtain ⟨hm0, hm1, hm2⟩ := fmod_facts (len := (Bs.length : Int)) (tb := tb) (by omega) ht1
  k_steps
  refine unhold ?_
  have hlft := left_div (n := Bs.length) (tb := tb) ht1
  generalize hleft : (Bs.length : Int).fmod tb = left at *
  rename News _ _ _ _ => lN
  rename Fr _ _ _ _ => lF
  refine' storeX_L lF lN ?_ ?a ?b
  case a => rfl
  case b => rfl
  intro h₂ F₂ N₂
  clear lN lF
  k_steps
  · refine unhold ?_
    refine wpAny_Return_some (wpAny_Constant_none ?_)
    dsimp only
    rename 0 < left => q1
    rename fb ≤ left => q2
    rename News _ _ _ _ => lN
    exact hN (by unfold cutRest; rw [hleft, if_pos ⟨q1, .inl q2⟩]) _ _ _ (by assumption) (cb_drop lN (fun p hp => by simp only [List.mem_cons, hp, or_true]))
  · refine unhold ?_
    rename 0 < left => q1
    rename ¬ fb ≤ left => q2
    rename News _ _ _ _ => lN
    rename Fr _ _ _ _ => lF
    refine' kmk_slice_ints lF lN (vs := zs) ⟨_, (lN (D, W.listOf zs.toArray nD) (.head _)).1, rfl, nD, rfl⟩ ?sp ?sq hzs (kmk_from_neg hzs (show -left < 0 by omega)) rfl ?sk ?ss ?st (by rw [List.size_toArray, IntsAre.length hzs, sizeLine_eq]; omega)
    case sp => exact IsPart.int _ _
    case sq => exact IsPart.none
    case ss => with_unfolding_all rfl
    case st => intro _; with_unfolding_all rfl
    case sk =>
      intro D₃ ws h₃ F₃ N₃ hlt₃ hws hwc hwl
      rw [Int.neg_neg] at hws hwc hwl
      clear lN lF
      k_steps
      · refine unhold ?_
        refine wpAny_Return_some (wpAny_Constant_none ?_)
        dsimp only
        rename News _ _ _ _ => lN
        rename 0 < List.sum _ => q3
        exact hN (by unfold cutRest; rw [hleft, if_pos ⟨q1, .inr q3⟩]) _ _ _ (by assumption) (cb_drop lN (fun p hp => by simp only [List.mem_cons, hp, or_true]))
      · refine unhold ?_
        refine wpAny_Return_some ?_
        rename ¬ 0 < List.sum _ => q3
        rename News _ _ _ _ => lN
        rename Fr _ _ _ _ => lF
        refine cut_comp (n := Bs.length / tb.toNat) X T lF (cb_drop (news := (D, W.listOf zs.toArray nD) :: (L' + 1 + 1 + 1, o1) :: (L' + 1 + 1, o2) :: (L' + 1, o3) :: news) lN (fun p hp => List.mem_cons_of_mem _ hp)) e1 e2 hzs (by omega) hbit ht1 ht2 (by omega) (by omega) hlft ?_
        intro D₅ zs₅ n₅ h₅ tk₅ F₅ N₅ hlt₅ hi₅
        exact hS _ (by unfold cutRest; rw [hleft, if_neg (fun q => q.2.elim q2 q3)]) D₅ zs₅ n₅ h₅ tk₅ _ F₅ (cb_drop N₅ (fun p hp => by simp only [List.mem_cons] at hp ⊢; rcases hp with h | h <;> simp [h])) (fun p hp => hlt₅ p (by simp only [List.mem_cons, hp, or_true])) hi₅
  · refine unhold ?_
    refine wpAny_Return_some ?_
    rename ¬ 0 < left => q1
    rename News _ _ _ _ => lN
    rename Fr _ _ _ _ => lF
    refine cut_comp (n := Bs.length / tb.toNat) X T lF lN e1 e2 hzs (by omega) hbit ht1 ht2 (by omega) (by omega) hlft ?_
    intro D₅ zs₅ n₅ h₅ tk₅ F₅ N₅ hlt₅ hi₅
    exact hS _ (by unfold cutRest; rw [hleft, if_neg (fun q => q1 q.1)]) D₅ zs₅ n₅ h₅ tk₅ _ F₅ (cb_drop N₅ (fun p hp => by simp only [List.mem_cons] at hp ⊢; rcases hp with h | h <;> simp [h])) (fun p hp => hlt₅ p (by simp only [List.mem_cons, hp, or_true])) hi₅
end Mine

-- part W4

namespace Mine
open PySem PySem.W PyProof.Rows PySem.Calls PySem.Spec
set_option maxRecDepth 100000
set_option maxHeartbeats 8000000
theorem calm_W4 : True := by
  w_top off
  exact trivial
structure CS where
  acc : Int
  ta : Tok
  bits : Int
  tb : Tok
  vs : List Value
  cnt : Nat

/-- what holds between two turns of the for -/
def TurnInv (fb tb : Int) (pre : List Int) (c : CS) : Prop :=
  Fits fb.toNat pre ∧ c.bits = (((fb.toNat * pre.length) % tb.toNat : Nat) : Int) ∧ c.acc = bigV fb.toNat pre % 2 ^ (fb.toNat + tb.toNat - 1) ∧ c.vs.length = (fb.toNat * pre.length) / tb.toNat ∧
  IntsAre c.vs (digs tb.toNat (bigV fb.toNat pre) (fb.toNat * pre.length) (fb.toNat * pre.length / tb.toNat))

-- one rule more, so that the count of the rules differs from that of the block ahead (the walker keeps its table by that count)
local macro_rules | `(tactic| walk_at "MinePad") => `(tactic| (refine Mine.hold ?_))
local macro_rules | `(tactic| walk_at "exec While") => `(tactic| (k_here; refine Mine.hold ?_))
local macro_rules | `(tactic| walk_at "exec While Compare cons nil") => `(tactic| (k_here; refine Mine.hold ?_))

local macro_rules | `(tactic| walk_at "KswEnd") => `(tactic| refine Mine.hold ?_)
local macro_rules | `(tactic| walk_at "InvEndN") => `(tactic| refine Mine.hold ?_)

structure WS where
  bits : Int
  tb : Tok
  vs : List Value
  cnt : Nat
  q : Nat

/-- what holds between two turns of the while -/
def WhInv (fb tb : Int) (pre : List Int) (c : WS) : Prop :=
  c.bits = ((fb.toNat * pre.length : Nat) : Int) - ((tb.toNat * c.q : Nat) : Int) ∧ 0 ≤ c.bits ∧ c.bits < fb + tb ∧ c.vs.length = c.q ∧ c.q ≤ 12000 ∧ IntsAre c.vs (digs tb.toNat (bigV fb.toNat pre) (fb.toNat * pre.length) c.q)

local macro_rules | `(tactic| walk_at "call builtin:list.append") => `(tactic| (k_here; (with_reducible show wpAny _ _ (call (Value.builtin _) [Value.ref _, _]) _ _ _); refine' append_K ?k1 ?k2 (Upd.head ?k3) ?_ ?z; (case k1 => k_asm); (case k2 => k_asm); (case k3 => assumption); (case z => (simp only [List.size_toArray]; rw [sizeLine_eq]; omega)); intro h' F' N'; (try k_sweep)))

theorem fits_of {f : Nat} {n : Int} (h0 : ¬ n < 0) (h1 : n.fdiv (2 ^ f) = 0) : 0 ≤ n ∧ n < 2 ^ f := by
  rw [Int.fdiv_eq_ediv_of_nonneg _ (Int.le_of_lt (p2 _))] at h1
  have := Int.emod_add_mul_ediv n (2 ^ f)
  have := Int.emod_lt_of_pos n (p2 f)
  rw [h1] at *
  omega
theorem acc_val {fb tb acc bits V : Int} {T : Nat} (hf1 : 1 ≤ fb) (ht1 : 1 ≤ tb) (ha : acc = V % 2 ^ (fb.toNat + tb.toNat - 1)) (hb : bits = ((T % tb.toNat : Nat) : Int)) (hlt : T % tb.toNat < tb.toNat) :
    Builtin.bitAnd (acc * 2 ^ (tb - bits).toNat) (2 ^ tb.toNat - 1) = V * 2 ^ (tb.toNat - T % tb.toNat) % 2 ^ tb.toNat := by
  rw [kbt_mask, ha, mul_mod _ (by omega), show (tb - bits).toNat = tb.toNat - T % tb.toNat by omega]
theorem wh_step {fb tb A M bits : Int} {pre : List Int} {tk tk' tk'' : Tok} {vs : List Value} {cnt cnt' q : Nat} (hf1 : 1 ≤ fb) (hf2 : fb ≤ 12) (ht1 : 1 ≤ tb) (ht2 : tb ≤ 12) (hp : pre.length < 1000)
    (h : WhInv fb tb pre ⟨bits, tk, vs, cnt, q⟩) (hle : tb ≤ bits) (hA : A = bigV fb.toNat pre % 2 ^ (fb.toNat + tb.toNat - 1)) (hM : M = 2 ^ tb.toNat - 1) :
    WhInv fb tb pre ⟨bits - tb, tk', vs ++ [.int (Builtin.bitAnd (A.fdiv (2 ^ (bits - tb).toNat)) M) tk''], cnt', q + 1⟩ := by
  obtain ⟨h1, h2, h3, h4, h5, h6⟩ := h
  dsimp only at h1 h2 h3 h4 h5 h6
  subst hA hM
  generalize hf : fb.toNat = f at *
  generalize ht : tb.toNat = t at *
  have ef : fb = (f : Int) := by omega
  have et : tb = (t : Int) := by omega
  have e1 : t * (q + 1) = t * q + t := by rw [Nat.mul_add, Nat.mul_one]
  have e2 : (bits - tb).toNat = f * pre.length - t * (q + 1) := by omega
  have e3 : t * (q + 1) ≤ f * pre.length := by omega
  have e4 : f * pre.length ≤ 12 * 999 := Nat.mul_le_mul (by omega) (by omega)
  have e5 : q + 1 ≤ t * (q + 1) := Nat.le_mul_of_pos_left _ (by omega)
  refine ⟨?_, ?_, ?_, ?_, ?_, ?_⟩
  · dsimp only
    try rw [hf, ht]
    omega
  · dsimp only
    try rw [hf, ht]
    omega
  · dsimp only
    try rw [hf, ht]
    omega
  · dsimp only
    rw [List.length_append, h4]
    rfl
  · dsimp only
    try rw [hf, ht]
    omega
  · dsimp only
    rw [hf, ht, digs_succ]
    refine ints_append h6 ?_
    rw [kbt_mask, e2, Int.fdiv_eq_ediv_of_nonneg _ (Int.le_of_lt (p2 _)), mod_div _ (by omega)]
    exact .cons _ _ .nil
theorem wh_start {fb tb acc bits n : Int} {pre : List Int} {ta tk tk' : Tok} {vs : List Value} {cnt : Nat} (hf1 : 1 ≤ fb) (hf2 : fb ≤ 12) (ht1 : 1 ≤ tb) (ht2 : tb ≤ 12) (hp : pre.length < 1000)
    (h : TurnInv fb tb pre ⟨acc, ta, bits, tk, vs, cnt⟩) (h0 : ¬ n < 0) (h1 : n.fdiv (2 ^ fb.toNat) = 0) : WhInv fb tb (pre ++ [n]) ⟨bits + fb, tk', vs, cnt, vs.length⟩ := by
  obtain ⟨hF, hb, ha, hv, hi⟩ := h
  dsimp only at hb ha hv hi
  generalize hf : fb.toNat = f at *
  generalize ht : tb.toNat = t at *
  have ef : fb = (f : Int) := by omega
  have et : tb = (t : Int) := by omega
  obtain ⟨hn0, hn1⟩ := fits_of h0 h1
  have e1 : f * (pre ++ [n]).length = f * pre.length + f := by rw [List.length_append, List.length_singleton, Nat.mul_add, Nat.mul_one]
  have e2 := Nat.mod_add_div (f * pre.length) t
  have e3 : f * pre.length ≤ 12 * 999 := Nat.mul_le_mul (by omega) (by omega)
  have e4 : f * pre.length / t ≤ f * pre.length := Nat.div_le_self _ _
  have e5 : (f * pre.length) % t < t := Nat.mod_lt _ (by omega)
  refine ⟨?_, ?_, ?_, rfl, ?_, ?_⟩
  · dsimp only
    rw [hf, ht, e1, hv]
    omega
  · dsimp only
    omega
  · dsimp only
    omega
  · dsimp only
    omega
  · dsimp only
    rw [hf, ht, e1, hv, bigV_snoc, digs_on hn0 hn1 (by omega)]
    exact hi
theorem acc_step {fb tb acc bits n X : Int} {pre : List Int} {ta tk : Tok} {vs : List Value} {cnt : Nat} (hf1 : 1 ≤ fb) (hf2 : fb ≤ 12) (ht1 : 1 ≤ tb) (ht2 : tb ≤ 12)
    (h : TurnInv fb tb pre ⟨acc, ta, bits, tk, vs, cnt⟩) (h0 : ¬ n < 0) (h1 : n.fdiv (2 ^ fb.toNat) = 0) (hX : X = 2 ^ (fb.toNat + tb.toNat - 1) - 1) :
    Builtin.bitAnd (Builtin.bitOr (acc * 2 ^ fb.toNat) n) X = bigV fb.toNat (pre ++ [n]) % 2 ^ (fb.toNat + tb.toNat - 1) := by
  obtain ⟨hF, hb, ha, hv, hi⟩ := h
  dsimp only at hb ha hv hi
  obtain ⟨hn0, hn1⟩ := fits_of h0 h1
  have hV := bigV_bound pre hF
  rw [hX, kbt_mask, or_add (by rw [ha]; exact Int.emod_nonneg _ (Int.ne_of_gt (p2 _))) hn0 hn1, ha, bigV_snoc, Int.add_emod, mul_mod _ (Nat.le_refl _), ← Int.add_emod]
theorem turn_end {fb tb A bits : Int} {pre : List Int} {ta tk tk' : Tok} {vs : List Value} {cnt cnt' q : Nat} (hf1 : 1 ≤ fb) (hf2 : fb ≤ 12) (ht1 : 1 ≤ tb) (ht2 : tb ≤ 12) (hF : Fits fb.toNat pre)
    (h : WhInv fb tb pre ⟨bits, tk, vs, cnt, q⟩) (hlt : ¬ tb ≤ bits) (hA : A = bigV fb.toNat pre % 2 ^ (fb.toNat + tb.toNat - 1)) :
    TurnInv fb tb pre ⟨A, ta, bits, tk', vs, cnt'⟩ := by
  obtain ⟨h1, h2, h3, h4, h5, h6⟩ := h
  dsimp only at h1 h2 h3 h4 h5 h6
  generalize hf : fb.toNat = f at *
  generalize ht : tb.toNat = t at *
  have et : tb = (t : Int) := by omega
  have e2 := Nat.mod_add_div (f * pre.length) t
  have e5 : (f * pre.length) % t < t := Nat.mod_lt _ (by omega)
  have e6 : f * pre.length / t = q := by
    exact Nat.div_eq_of_lt_le (by rw [Nat.mul_comm q t]; omega) (by rw [Nat.mul_comm (q + 1) t, Nat.mul_add, Nat.mul_one]; omega)
  refine ⟨by rw [hf]; exact hF, ?_, by rw [hf, ht]; exact hA, ?_, ?_⟩
  · dsimp only
    rw [hf, ht]
    rw [e6] at e2
    omega
  · dsimp only
    rw [hf, ht, e6]
    exact h4
  · dsimp only
    rw [hf, ht, e6]
    exact h6
theorem fits_step {fb n : Int} {pre : List Int} (h : Fits fb.toNat pre) (h0 : ¬ n < 0) (h1 : n.fdiv (2 ^ fb.toNat) = 0) : Fits fb.toNat (pre ++ [n]) := by
  exact fits_snoc.mpr ⟨h, fits_of h0 h1⟩
theorem start_inv (fb tb : Int) (ta tk : Tok) : TurnInv fb tb [] ⟨0, ta, 0, tk, [], 0⟩ := by
  refine ⟨(fun _ h => nomatch h), ?_, ?_, ?_, ?_⟩
  · simp
  · simp [bigV]
  · simp
  · simp [digs]
    exact .nil
theorem conv_bad {fb tb n : Int} {pad : Bool} {pre post ns : List Int} (he : ns = pre ++ n :: post) (h : n < 0 ∨ n.fdiv (2 ^ fb.toNat) ≠ 0) : conv ns fb tb pad = none := by
  unfold conv convN
  dsimp only
  rw [if_neg]
  intro hF
  obtain ⟨h0, h1⟩ := hF n (by rw [he]; simp)
  rcases h with h | h
  · omega
  · exact h (by rw [Int.fdiv_eq_ediv_of_nonneg _ (Int.le_of_lt (p2 _))]; exact Int.ediv_eq_zero_of_lt h0 h1)

theorem fin_pad0 {fb tb acc bits : Int} {ns : List Int} {ta tk : Tok} {vs : List Value} {cnt : Nat} {pad : Bool} (hf1 : 1 ≤ fb) (ht1 : 1 ≤ tb) (h : TurnInv fb tb ns ⟨acc, ta, bits, tk, vs, cnt⟩) (hp : pad = true) (hb : bits = 0) :
    ∃ out, conv ns fb tb pad = some out ∧ IntsAre vs out := by
  obtain ⟨hF, hb', ha, hv, hi⟩ := h
  dsimp only at hb' ha hv hi
  refine ⟨_, ?_, hi⟩
  unfold conv convN
  dsimp only
  rw [if_pos hF, hp, if_pos rfl, if_pos (by omega)]
theorem fin_pad1 {fb tb acc bits M : Int} {ns : List Int} {ta tk tk' : Tok} {vs : List Value} {cnt : Nat} {pad : Bool} (hf1 : 1 ≤ fb) (ht1 : 1 ≤ tb) (h : TurnInv fb tb ns ⟨acc, ta, bits, tk, vs, cnt⟩) (hp : pad = true) (hb : bits ≠ 0) (hM : M = 2 ^ tb.toNat - 1) :
    ∃ out, conv ns fb tb pad = some out ∧ IntsAre (vs ++ [.int (Builtin.bitAnd (acc * 2 ^ (tb - bits).toNat) M) tk']) out := by
  obtain ⟨hF, hb', ha, hv, hi⟩ := h
  dsimp only at hb' ha hv hi
  have e5 : (fb.toNat * ns.length) % tb.toNat < tb.toNat := Nat.mod_lt _ (by omega)
  rw [hM, acc_val hf1 ht1 ha hb' (by omega)]
  refine ⟨_, ?_, ints_append hi (.cons _ _ .nil)⟩
  unfold conv convN
  dsimp only
  rw [if_pos hF, hp, if_pos rfl, if_neg (by omega)]
theorem fin_n1 {fb tb acc bits : Int} {ns : List Int} {ta tk : Tok} {vs : List Value} {cnt : Nat} {pad : Bool} (hf1 : 1 ≤ fb) (ht1 : 1 ≤ tb) (h : TurnInv fb tb ns ⟨acc, ta, bits, tk, vs, cnt⟩) (hp : pad = false) (hb : fb ≤ bits) :
    conv ns fb tb pad = none := by
  obtain ⟨hF, hb', ha, hv, hi⟩ := h
  dsimp only at hb' ha hv hi
  unfold conv convN
  dsimp only
  rw [if_pos hF, hp, if_neg (by decide), if_pos (.inl (by omega))]
theorem fin_n2 {fb tb acc bits M : Int} {ns : List Int} {ta tk : Tok} {vs : List Value} {cnt : Nat} {pad : Bool} (hf1 : 1 ≤ fb) (ht1 : 1 ≤ tb) (h : TurnInv fb tb ns ⟨acc, ta, bits, tk, vs, cnt⟩) (hp : pad = false) (hM : M = 2 ^ tb.toNat - 1) (hb : Builtin.bitAnd (acc * 2 ^ (tb - bits).toNat) M ≠ 0) :
    conv ns fb tb pad = none := by
  obtain ⟨hF, hb', ha, hv, hi⟩ := h
  dsimp only at hb' ha hv hi
  have e5 : (fb.toNat * ns.length) % tb.toNat < tb.toNat := Nat.mod_lt _ (by omega)
  rw [hM, acc_val hf1 ht1 ha hb' (by omega)] at hb
  unfold conv convN
  dsimp only
  rw [if_pos hF, hp, if_neg (by decide), if_pos (.inr hb)]
theorem fin_n3 {fb tb acc bits M : Int} {ns : List Int} {ta tk : Tok} {vs : List Value} {cnt : Nat} {pad : Bool} (hf1 : 1 ≤ fb) (ht1 : 1 ≤ tb) (h : TurnInv fb tb ns ⟨acc, ta, bits, tk, vs, cnt⟩) (hp : pad = false) (hM : M = 2 ^ tb.toNat - 1) (hb1 : ¬ fb ≤ bits) (hb : Builtin.bitAnd (acc * 2 ^ (tb - bits).toNat) M = 0) :
    ∃ out, conv ns fb tb pad = some out ∧ IntsAre vs out := by
  obtain ⟨hF, hb', ha, hv, hi⟩ := h
  dsimp only at hb' ha hv hi
  have e5 : (fb.toNat * ns.length) % tb.toNat < tb.toNat := Nat.mod_lt _ (by omega)
  rw [hM, acc_val hf1 ht1 ha hb' (by omega)] at hb
  refine ⟨_, ?_, hi⟩
  unfold conv convN
  dsimp only
  rw [if_pos hF, hp, if_neg (by decide), if_neg (fun q => q.elim (fun q => hb1 (by omega)) (fun q => q hb))]
theorem vs_len {fb tb : Int} {ns : List Int} {c : CS} (hf1 : 1 ≤ fb) (hf2 : fb ≤ 12) (ht1 : 1 ≤ tb) (hl : ns.length < 1000) (h : TurnInv fb tb ns c) : c.vs.length ≤ 12000 := by
  obtain ⟨hF, hb', ha, hv, hi⟩ := h
  rw [hv]
  have e3 : fb.toNat * ns.length ≤ 12 * 999 := Nat.mul_le_mul (by omega) (by omega)
  have e4 := Nat.div_le_self (fb.toNat * ns.length) tb.toNat
  omega

theorem turn_bounds {fb tb : Int} {pre : List Int} {c : CS} (hf1 : 1 ≤ fb) (hf2 : fb ≤ 12) (ht1 : 1 ≤ tb) (ht2 : tb ≤ 12) (h : TurnInv fb tb pre c) : 0 ≤ c.acc ∧ c.acc < 8388608 ∧ 0 ≤ c.bits ∧ c.bits < tb := by
  obtain ⟨hF, hb', ha, hv, hi⟩ := h
  have e5 : (fb.toNat * pre.length) % tb.toNat < tb.toNat := Nat.mod_lt _ (by omega)
  have e6 : (2 : Int) ^ (fb.toNat + tb.toNat - 1) ≤ 8388608 := by
    have h1 : (2 : Nat) ^ (fb.toNat + tb.toNat - 1) ≤ 2 ^ 23 := Nat.pow_le_pow_right (by decide) (by omega)
    rw [← kbt_cast]
    omega
  have e7 := Int.emod_nonneg (bigV fb.toNat pre) (Int.ne_of_gt (p2 (fb.toNat + tb.toNat - 1)))
  have e8 := Int.emod_lt_of_pos (bigV fb.toNat pre) (p2 (fb.toNat + tb.toNat - 1))
  omega

def convDef : Option (List Stmt × Scope) := match PySem.Challenge.pw_bp0001_01.main.body with
  | [_, .FunctionDef _ _ body _ _ _ scope _ _ _, _, _, _] => some (body, scope)
  | _ => none
def convScope : Scope := match convDef with | some (_, s) => s | none => default
def convBody : List Stmt := match convDef with | some (b, _) => b | none => []

theorem conv_body {w : World} {mean : ExcName → Option Value} {mg mb : Str → Option Value} {dp un : Nat} {gd : Option (List Code)} {cn : Str} {cs : Scope} {a : Addr} {ccd : Value} {cl : List (Str × Addr)} {outer : List Env} {L L' : Addr} {g' : Heap} {news : List (Addr × Obj)} {s : Shared}
    {l : Addr} {vs : List Value} {ns : List Int} {nn : Nat} {fb tb : Int} {t1 t2 : Tok} {pad : Bool} {Q : Flow → Shared → Prop} {E : Value → Shared → Prop}
    (X : (hd.heap_39 w.params).In g') (T : Top hd.view_39 (looseW hd.view_39 [Str.ofString "convertbits"]) mean mg mb g')
    (F : Fr g' L' s.heap (fun y => List.lookup y [(Str.ofString "pad", .bool pad), (Str.ofString "tobits", .int tb t2), (Str.ofString "frombits", .int fb t1), (Str.ofString "data", .ref l)])) (N : News g' L' s.heap news)
    (hl : (l, listOf vs.toArray nn) ∈ news) (hi : IntsAre vs ns) (hlen : ns.length < 1000) (hf1 : 1 ≤ fb) (hf2 : fb ≤ 12) (ht1 : 1 ≤ tb) (ht2 : tb ≤ 12)
    (hE : PassesOwn (model PySem.Challenge.rw_bp0001_01.row.prog w) ((ktrTop dp un gd cn cs L a ccd cl outer).deeper (envOf (Str.ofString "convertbits") convScope L' 22 (.ref 21))) (envOf (Str.ofString "convertbits") convScope L' 22 (.ref 21)) E)
    (hN : conv ns fb tb pad = none → ∀ h' tk' m', Fr g' L' h' m' → News g' L' h' news → Q (.ret .none) { s with heap := h', toks := tk' })
    (hS : ∀ out, conv ns fb tb pad = some out → ∀ D' zs' n' h' tk' m', Fr g' L' h' m' → News g' L' h' ((D', listOf zs'.toArray n') :: news) → (∀ p ∈ news, p.1 < D') → IntsAre zs' out → Q (.ret (.ref D')) { s with heap := h', toks := tk' }) :
    wpAny (model PySem.Challenge.rw_bp0001_01.row.prog w) ((ktrTop dp un gd cn cs L a ccd cl outer).deeper (envOf (Str.ofString "convertbits") convScope L' 22 (.ref 21))) (execs convBody (envOf (Str.ofString "convertbits") convScope L' 22 (.ref 21))) Q E s := by
  revert X
  k_fill
  intro X
  dsimp only [convBody, convScope, convDef, PySem.Challenge.pw_bp0001_01] at hE ⊢
  k_steps
  rename News _ _ _ _ => lN
  rename Fr _ _ _ _ => lF
  with_unfolding_all refine' kst_listL (σ := CS) (fun c => (_, listOf c.vs.toArray c.cnt) :: news) (fun c => [(Str.ofString "acc", .int c.acc c.ta), (Str.ofString "bits", .int c.bits c.tb)]) (fun _ => True) [] (TurnInv fb tb) ⟨0, ?ta, 0, ?tb, [], 0⟩ (by rfl) (fun c => List.mem_cons_of_mem _ hl) (by assumption) lF lN trivial ?kk ?kp ?_ ?_
  case kk => kst_all
  case kp => exact start_inv _ _ _ _
  · clear lN lF
    intro c pre post n t u h tk own hEq hMem hOff _ hInv kF kN
    obtain ⟨hb1, hb2, hb3, hb4⟩ := turn_bounds hf1 hf2 ht1 ht2 hInv
    rcases c with ⟨acc, ta, bits, tbk, cvs, cnt⟩
    have hpl : pre.length < 999 := by
      have := congrArg List.length hEq
      simp only [List.length_append, List.length_cons] at this
      omega
    dsimp only at hb1 hb2 hb3 hb4 kF kN hOff
    try k_fold
    k_steps
    · exact hN (conv_bad hEq (.inl (by assumption))) _ _ _ kF (cb_drop kN (fun p hp => List.mem_append_left _ (List.mem_cons_of_mem _ hp)))
    · exact hN (conv_bad hEq (.inr (by assumption))) _ _ _ kF (cb_drop kN (fun p hp => List.mem_append_left _ (List.mem_cons_of_mem _ hp)))
    · refine unhold ?_
      rename News _ _ _ _ => lN
      rename Fr _ _ _ _ => lF
      rename ¬ n < 0 => hn0
      rename n.fdiv _ = 0 => hn1
      rename (∀ p ∈ news, p.1 < _) => hLt
      have hNe : ∀ p ∈ news ++ own, p.1 ≠ _ := fun p hp => (List.mem_append.mp hp).elim (fun h => Nat.ne_of_lt (hLt p h)) (fun h => hOff p h _ (List.mem_cons_self ..))
      with_unfolding_all refine' ksw_while (σ := WS) (fun c => (_, listOf c.vs.toArray c.cnt) :: (news ++ own)) (fun c => [(Str.ofString "bits", .int c.bits c.tb)]) (fun _ => True) [] (WhInv fb tb (pre ++ [n])) (fun c => c.bits.toNat) ⟨bits + fb, ?tb2, cvs, cnt, cvs.length⟩ lF ?kn trivial ?kk ?kp ?_ (hE := hE)
      case kn => with_unfolding_all exact lN
      case kk =>
        intro p hp
        cases List.mem_singleton.mp hp
        exact if_pos rfl
      case kp => exact wh_start hf1 hf2 ht1 ht2 (by omega) hInv hn0 hn1
      · clear lN lF
        intro c u h tk _ hInv2 kF2 kN2
        rcases c with ⟨bits2, tbk2, cvs2, cnt2, q⟩
        have hInv3 := hInv2
        obtain ⟨he1, he2, he3, he4, he5, he6⟩ := hInv3
        dsimp only at he2 he3 he4 he5 kF2 kN2
        clear he1 he6
        try k_fold
        k_steps
        · refine unhold ?_
          rename News _ _ _ _ => nE
          simp only [List.push_toArray] at nE
          refine ksw_end ⟨_, _, _, _, q + 1⟩ (by assumption) nE (by intro p hp; exact hp) trivial (by kst_all) (by (intro z h2 _; have h2' : z ≠ Str.ofString "bits" := h2 _ (List.mem_singleton_self _); simp only [kstB, h2', if_false, List.contains_nil, Bool.false_eq_true])) ?_ ?_
          · exact wh_step hf1 hf2 ht1 ht2 (by simp; omega) hInv2 (by assumption) (acc_step hf1 hf2 ht1 ht2 hInv hn0 hn1 (by rw [Int.one_mul, show (fb + tb - 1).toNat = fb.toNat + tb.toNat - 1 by omega])) (by rw [Int.one_mul])
          · dsimp only
            omega
        · refine unhold ?_
          rename News _ _ _ _ => nE
          refine' kst_end (σ := CS) ⟨?a1, ?a2, ?a3, ?a4, cvs2, cnt2⟩ (by assumption) nE ?h1 ?h2 (by with_unfolding_all rfl) trivial ?h3 ?h4 ?h5
          case h3 =>
            refine List.forall_mem_cons.mpr ⟨?_, List.forall_mem_cons.mpr ⟨?_, fun _ h => nomatch h⟩⟩
            · exact rfl
            · exact rfl
          case h1 =>
            intro p hp
            rcases List.mem_cons.mp hp with rfl | hp
            · exact .head _
            · exact .tail _ (List.mem_append_left _ hp)
          case h2 => exact fun p hp => List.mem_cons_of_mem _ (List.mem_append_right _ hp)
          case h4 =>
            intro z h1 h2 _
            have h3 : z ≠ Str.ofString "acc" := h2 _ (.head _)
            have h4 : z ≠ Str.ofString "bits" := h2 _ (.tail _ (.head _))
            simp only [kstB, h1, h3, h4, if_false, List.contains_nil, Bool.false_eq_true]
          case h5 => exact turn_end hf1 hf2 ht1 ht2 (fits_step hInv.1 hn0 hn1) hInv2 (by assumption) (acc_step (X := 1 * 2 ^ (fb + tb - 1).toNat - 1) hf1 hf2 ht1 ht2 hInv hn0 hn1 (by rw [Int.one_mul, show (fb + tb - 1).toNat = fb.toNat + tb.toNat - 1 by omega]))
  · clear lN lF
    intro c u h tk _ hInv kF kN
    rename (∀ p ∈ news, p.1 < _) => hLt
    have hNe : ∀ p ∈ news, p.1 ≠ _ := fun p hp => Nat.ne_of_lt (hLt p hp)
    obtain ⟨hb1, hb2, hb3, hb4⟩ := turn_bounds hf1 hf2 ht1 ht2 hInv
    have hvl := vs_len hf1 hf2 ht1 hlen hInv
    rcases c with ⟨acc, ta, bits, tbk, cvs, cnt⟩
    dsimp only at hb1 hb2 hb3 hb4 kF kN hvl
    try k_fold
    k_steps
    · rename pad = true => hpd
      rename bits ≠ 0 => hbz
      obtain ⟨out, ho1, ho2⟩ := fin_pad1 (tk' := _) hf1 ht1 hInv hpd hbz (M := 1 * 2 ^ tb.toNat - 1) (by rw [Int.one_mul])
      rename News _ _ _ _ => nE
      simp only [List.push_toArray] at nE
      exact hS out ho1 _ _ _ _ _ _ (by assumption) nE hLt ho2
    · rename pad = true => hpd
      rename bits = 0 => hbz
      obtain ⟨out, ho1, ho2⟩ := fin_pad0 hf1 ht1 hInv hpd hbz
      rename News _ _ _ _ => nE
      exact hS out ho1 _ _ _ _ _ _ (by assumption) nE hLt ho2
    · rename pad = false => hpd
      exact hN (fin_n1 hf1 ht1 hInv hpd (by assumption)) _ _ _ kF (cb_drop kN (fun p hp => List.mem_cons_of_mem _ hp))
    · rename pad = false => hpd
      exact hN (fin_n2 (M := 1 * 2 ^ tb.toNat - 1) hf1 ht1 hInv hpd (by rw [Int.one_mul]) (by assumption)) _ _ _ kF (cb_drop kN (fun p hp => List.mem_cons_of_mem _ hp))
    · rename pad = false => hpd
      obtain ⟨out, ho1, ho2⟩ := fin_n3 (M := 1 * 2 ^ tb.toNat - 1) hf1 ht1 hInv hpd (by rw [Int.one_mul]) (by assumption) (by assumption)
      rename News _ _ _ _ => nE
      exact hS out ho1 _ _ _ _ _ _ (by assumption) nE hLt ho2
end Mine

-- part C5

namespace Mine
open PySem PySem.W PyProof.Rows PySem.Calls PySem.Spec
set_option maxRecDepth 100000
set_option maxHeartbeats 8000000
theorem calm_C5 : True := by
  w_top off
  exact trivial
local macro_rules | `(tactic| walk_at "eval ListComp") => `(tactic| (k_here; refine Mine.hold ?_))
local macro_rules | `(tactic| walk_at "exec Assign cons ListComp") => `(tactic| (k_here; refine Mine.hold ?_))
local macro_rules | `(tactic| walk_at "execs cons") => `(tactic| (k_here; (with_reducible show wpAny _ _ (execs [Stmt.Assign _ _ _, Stmt.If _ _ _ _, Stmt.Return _ _] _) _ _ _); refine Mine.hold ?_))
local macro_rules | `(tactic| walk_at "inplaceOp Add ref ref") => `(tactic| (k_here; refine Mine.hold ?_))
local macro_rules | `(tactic| walk_at "eval Name") => `(tactic| (k_here; k_inBlock; (refine' Mine.nameG_B ?F ?X ?T ?e ?v ?n ?_ ?g ?b ?k ?x ?d; (case g => rfl); (case b => rfl); (case k => rfl); (case x => rfl); (case d => decide); (case F => k_asm); (case X => k_asm); (case T => k_asm); (case e => k_is); (case v => boot_fast); (case n => decide); k_whole)))
def CutTells (w : World) (mean : ExcName → Option Value) (mg mb : Str → Option Value) : Prop :=
  ∀ (dp un : Nat) (gd : Option (List Code)) (cn : Str) (cs : Scope) (a : Addr) (ccd : Value) (cl : List (Str × Addr)) (outer : List Env) (A₀ : Around) (base h₀ : Heap) (L : Addr) (m : Str → Option Value) (news : List (Addr × Obj)) (s : Shared) (l : Addr) (vs : List Value) (ns : List Int) (nn : Nat) (fb tb : Int) (t1 t2 : Tok) (pad : Bool)
    (Q E : Value → Shared → Prop),
    Below A₀ base outer h₀ → Fr h₀ L s.heap m → (hd.heap_39 w.params).In h₀ → News h₀ L s.heap news → Top hd.view_39 (looseW hd.view_39 [Str.ofString "convertbits"]) mean mg mb h₀ → cs.kind = .function →
    (l, listOf vs.toArray nn) ∈ news → IntsAre vs ns → ns.length < 1000 → 1 ≤ fb → fb ≤ 12 → 1 ≤ tb → tb ≤ 12 → dp + 1 < recursionLimit → un + 8 < cLine →
    (∀ h' tk', Fr h₀ L h' m → News h₀ L h' news → conv ns fb tb pad = none → Q .none { s with heap := h', toks := tk' }) →
    (∀ out l' vs' nn' h' tk', Fr h₀ L h' m → News h₀ L h' ((l', listOf vs'.toArray nn') :: news) → IntsAre vs' out → (∀ q ∈ news, q.1 < l') → conv ns fb tb pad = some out → Q (.ref l') { s with heap := h', toks := tk' }) →
    wpAny (model prog w) (ktrTop dp un gd cn cs L a ccd cl outer) (call (.ref 27) [.ref l, .int fb t1, .int tb t2, .bool pad]) Q E s

theorem fmod_facts2 {x tb : Int} (ht : 1 ≤ tb) : 0 ≤ x.fmod tb ∧ x.fmod tb < tb := by
  rw [Int.fmod_eq_emod_of_nonneg _ (by omega)]
  exact ⟨Int.emod_nonneg _ (by omega), Int.emod_lt_of_pos _ (by omega)⟩
theorem bits_bit (fb : Int) (ns : List Int) : ∀ b ∈ bitsOf fb ns, 0 ≤ b ∧ b ≤ 1 := by
  intro b hb
  simp only [bitsOf, List.mem_flatMap, List.mem_map] at hb
  obtain ⟨a, _, k, _, rfl⟩ := hb
  have := fmod_facts2 (x := a.fdiv (2 ^ (fb - 1 - ((k : Nat) : Int)).toNat)) (tb := 2) (by decide)
  unfold bitAt
  omega
theorem rep_len (k : Nat) : (List.replicate k [(0 : Int)]).flatten.length = k := by simp
theorem rep_zero (k : Nat) : ∀ b ∈ (List.replicate k [(0 : Int)]).flatten, b = 0 := by
  intro b hb
  simp only [List.mem_flatten, List.mem_replicate] at hb
  obtain ⟨l, ⟨_, rfl⟩, h⟩ := hb
  exact List.mem_singleton.mp h
theorem cut_tells (w : World) (mean : ExcName → Option Value) (mg mb : Str → Option Value) : CutTells w mean mg mb := by
  unfold CutTells prog
  k_fill
  intro dp un gd cn cs a ccd cl outer A₀ base h₀ L m news s l vs ns nn fb tb t1 t2 pad Q E B F X N T hk hl hi hlen hf1 hf2 ht1 ht2 hd1 hu1 hnone hsome
  refine wpAny_call ?_
  refine' code_defC ?k1 ?k2 ?k3 ?k4 ?k5 ?kA ?kF ?kK ?k6 ?k7 ?k8 ?k9 ?kB ?kD ?_ ?c2 ?c3 ?c4
  case kA => exact rfl
  case kF => exact rfl
  case kK => assumption
  case k1 => k_asm
  case k2 => k_asm
  case k3 => k_asm
  case k4 => k_asm
  case k5 => k_asm
  case k6 => k_is
  case k7 => k_is
  case k8 => ktr_room
  case k9 => exact BindsTo.of_eq rfl
  case kB => exact rfl
  case kD => decide +kernel
  case c2 => exact rfl
  case c3 => exact rfl
  case c4 => exact rfl
  intro g' L' h' tk' cells' FG' F' N' Y' B' X' T' l1
  k_cells Y'
  try simp only [List.cons_append, List.nil_append] at N'
  rename_i o1 o2 o3 d1 d2 d3
  have e1 : o1.data = .cell none := d1
  have e2 : o2.data = .cell (some (.int tb t2)) := d2
  have e3 : o3.data = .cell (some (.int fb t1)) := d3
  clear d1 d2 d3
  try dsimp only
  try k_lift B'
  try k_fold
  k_steps
  refine unhold ?_
  with_reducible apply ListComp_DCn (K := .int) (pz := fun a => decide (a < 0) || decide (2 ^ fb.toNat ≤ a)) (d := PyData.int)
  case hh => with_unfolding_all rfl
  case hclos => with_unfolding_all rfl
  case hcell => decide
  case hkind => with_unfolding_all rfl
  case hnames => decide
  case hx => with_unfolding_all rfl
  case hs => intro _; with_unfolding_all rfl
  refine' nameX_L ?F ?v ?_ ?a ?b
  case F => k_asm
  case a => rfl
  case b => rfl
  case v => rfl
  rename News _ _ _ _ => lN
  rename Fr _ _ _ _ => lF
  refine ⟨_, l, vs, ns, rfl, ⟨_, (lN (l, W.listOf vs.toArray nn) (List.mem_cons_of_mem _ (List.mem_cons_of_mem _ (List.mem_cons_of_mem _ hl)))).1, rfl, nn, rfl⟩, hi.areOf, by rw [sizeLine_eq]; omega, lF, lN, ?_, ?_, ?_⟩
  · intro C a v s₂ m₂ E' hC ha hav hns hmx hkeep
    obtain ⟨t, rfl⟩ := ItemKind.int_is hav
    have F₂ := frInComp hns hkeep hC
    have N₂ := lN.grown hkeep
    clear lN lF
    k_steps
    all_goals first
      | exact keeps_tok
      | (rename a < 0 => q1; simp [q1]; done)
      | (rename ¬ a < 0 => q1; rename (2 : Int) ^ fb.toNat ≤ a => q2; simp [q1, q2]; done)
      | (rename ¬ a < 0 => q1; rename ¬ (2 : Int) ^ fb.toNat ≤ a => q2; simp [q1, q2]; done)
  · intro C a v s₂ m₂ E' hC ha hav _ hns hmx hkeep
    obtain ⟨t, rfl⟩ := ItemKind.int_is hav
    have F₂ := frInComp hns hkeep hC
    have N₂ := lN.grown hkeep
    clear lN lF
    k_steps
    · exact .int _ _
    · exact keeps_tok
  · intro D ys h₂ tk F₂ N₂ hD hl₂ hp₂ hc₂
    clear lN lF
    have hi₂ : IntsAre ys (ns.filter fun a => decide (a < 0) || decide (2 ^ fb.toNat ≤ a)) := IntsAre.ofCarried hc₂
    have hyl := IntsAre.length hi₂
    have hyl2 := List.length_filter_le (fun a => decide (a < 0) || decide ((2 : Int) ^ fb.toNat ≤ a)) ns
    refine wpAny_truthy_list hl₂ (by rw [List.size_toArray]; omega) ?_
    by_cases hz : Fits fb.toNat ns
    · have hye : ys.toArray.isEmpty = true := bad_nil hz hi₂
      rw [hye]
      k_steps
      refine unhold ?_
      refine wpAny_Assign_Name ?_ (by with_unfolding_all rfl)
      refine' ListComp2 (n := fb.toNat) (g := fun v k => bitAt fb v k) ?q1 ?q2 ?q3 ?q4 ?q5 ?q6 ?q7 ?q8 ?qh ?q9 ?q10
      case q1 => with_unfolding_all rfl
      case q2 => with_unfolding_all rfl
      case q3 => decide
      case q4 => with_unfolding_all rfl
      case q5 => decide
      case q6 => with_unfolding_all rfl
      case q7 => with_unfolding_all rfl
      case q8 => decide
      case q9 => intro _; with_unfolding_all rfl
      case q10 => intro _ _; with_unfolding_all rfl
      case qh =>
        rename News _ _ _ _ => lN
        rename Fr _ _ _ _ => lF
        refine' nameX_L ?F ?v ?_ ?a ?b
        case F => k_asm
        case a => rfl
        case b => rfl
        case v => rfl
        refine ⟨l, vs, ns, rfl, ⟨_, (lN (l, W.listOf vs.toArray nn) (by simp only [List.mem_cons, hl, or_true])).1, rfl, nn, rfl⟩, hi, ?_, ?_, lF, lN, ?_, ?_, ?_⟩
        · rw [sizeLine_eq]
          exact Nat.le_trans (Nat.mul_le_mul (show ns.length ≤ 1000 by omega) (show fb.toNat ≤ 12 by omega)) (by decide)
        · omega
        · intro C a t s₂ m₂ E' hC ha hns hmx hkeep
          have F₃ := frInComp hns hkeep hC
          have N₃ := lN.grown hkeep
          have X₃ := X'.keeps lF.keep
          have T₃ := T'.keeps lF.keep
          clear lN lF
          k_steps
          refine call_range_1 ?_
          exact ⟨⟨_, _, _, _, rfl, by rw [Int.toNat_of_nonneg (by omega)]; exact IsRange.new ..⟩, keeps_push⟩
        · intro C a t k t' s₂ m₂ E' hC ha hk hns hmx hmy hkeep
          have F₃ := frInComp hns hkeep hC
          have N₃ := lN.grown hkeep
          clear lN lF
          k_steps
          exact keeps_tok
        · intro D₃ zs n₃ h₃ tk₃ F₃ N₃ hlt₃ hzs
          clear lN lF
          obtain ⟨Bs, hBs⟩ : ∃ Bs : List Int, Bs = bitsOf fb ns := ⟨_, rfl⟩
          have hzs : IntsAre zs Bs := by rw [hBs]; exact hzs
          have hBl : Bs.length = ns.length * fb.toNat := by rw [hBs]; exact flat_len _ _ _
          have hBl2 : Bs.length ≤ 12000 := by
            rw [hBl]
            exact Nat.le_trans (Nat.mul_le_mul (show ns.length ≤ 1000 by omega) (show fb.toNat ≤ 12 by omega)) (by decide)
          have kMk : KstMark := kstMark
          have N₄ := cb_drop (news := (D₃, listOf zs.toArray n₃) :: (L' + 1 + 1 + 1, o1) :: (L' + 1 + 1, o2) :: (L' + 1, o3) :: news) N₃ (fun p hp => by
            simp only [List.mem_cons] at hp ⊢
            rcases hp with h | h | h | h | h <;> simp only [h, true_or, or_true])
          clear N₃
          have hD₃ : @LT.lt Nat _ (L' + 3) D₃ := hlt₃ (L' + 1 + 1 + 1, o1) (by simp)
          refine storeX_C (o := o1) F₃ N₄ (by with_unfolding_all rfl) (.tail (ne_lt (show @LT.lt Nat _ D₃ (L' + 1 + 1 + 1) ∨ @LT.lt Nat _ (L' + 1 + 1 + 1) D₃ by omega)) (.head ?_)) e1 ?_ rfl rfl
          · intro p hp
            simp only [List.mem_cons] at hp
            rcases hp with rfl | rfl | hp
            · exact ne_lt (show @LT.lt Nat _ (L' + 1 + 1) (L' + 1 + 1 + 1) ∨ _ by omega)
            · exact ne_lt (show @LT.lt Nat _ (L' + 1) (L' + 1 + 1 + 1) ∨ _ by omega)
            · have := l1 p hp
              exact ne_lt (show @LT.lt Nat _ p.1 (L' + 1 + 1 + 1) ∨ _ from .inl (Nat.lt_of_lt_of_le this (by omega)))
          · clear F₃ N₄ e1
            intro h₄ o4 F₄ N₄ e1
            try dsimp only at N₄
            try k_fold
            have hpf := fmod_facts2 (x := -(Bs.length : Int)) ht1
            k_steps
            · refine unhold ?_
              rename pad = true => hpd
              rename News _ _ _ _ => lN
              rename Fr _ _ _ _ => lF
              rename IntsAre (List.flatten _) _ => iz
              have N₅ := cb_drop (news := (D₃, W.listOf zs.toArray n₃) :: (L' + 1 + 1 + 1, o4) :: (L' + 1 + 1, o2) :: (L' + 1, o3) :: news) lN (fun p hp => List.mem_cons_of_mem _ (List.mem_cons_of_mem _ hp))
              have hzl := IntsAre.length hzs
              have hil := IntsAre.length iz
              refine iadd_K lF N₅ ?_ (lN _ (.head _)).1 hzs iz ?_ ?_
              · intro p hp
                simp only [List.mem_cons] at hp
                rcases hp with rfl | rfl | rfl | hp
                · exact ne_lt (show @LT.lt Nat _ (L' + 1 + 1 + 1) D₃ ∨ @LT.lt Nat _ D₃ (L' + 1 + 1 + 1) by omega)
                · exact ne_lt (show @LT.lt Nat _ (L' + 1 + 1) D₃ ∨ @LT.lt Nat _ D₃ (L' + 1 + 1) by omega)
                · exact ne_lt (show @LT.lt Nat _ (L' + 1) D₃ ∨ @LT.lt Nat _ D₃ (L' + 1) by omega)
                · have h9 : @LT.lt Nat _ p.1 L' := l1 p hp
                  exact ne_lt (show @LT.lt Nat _ p.1 D₃ ∨ @LT.lt Nat _ D₃ p.1 by omega)
              · rw [hzl, hil, sizeLine_eq, rep_len]
                omega
              · intro h₆ n₆ F₆ N₆ hz₆
                try dsimp only
                clear lF lN N₅
                have hBl₆ : (Bs ++ (List.replicate ((-(Bs.length : Int)).fmod tb).toNat [(0 : Int)]).flatten).length ≤ 12100 := by
                  rw [List.length_append, rep_len]
                  omega
                have hbit₆ : ∀ b ∈ Bs ++ (List.replicate ((-(Bs.length : Int)).fmod tb).toNat [(0 : Int)]).flatten, 0 ≤ b ∧ b ≤ 1 := by
                  intro b hb
                  rcases List.mem_append.mp hb with hb | hb
                  · rw [hBs] at hb
                    exact bits_bit fb ns b hb
                  · rw [rep_zero _ b hb]
                    omega
                have hcut : cutRest fb tb (Bs ++ (List.replicate ((-(Bs.length : Int)).fmod tb).toNat [(0 : Int)]).flatten) = conv ns fb tb pad := by
                  rw [hBs, hpd]
                  exact cut_conv_pad hf1 ht1 hz
                refine storeX_C (o := o4) F₆ N₆ (by with_unfolding_all rfl) (.tail (ne_lt (show @LT.lt Nat _ D₃ (L' + 1 + 1 + 1) ∨ @LT.lt Nat _ (L' + 1 + 1 + 1) D₃ by omega)) (.head ?_)) e1 ?_ rfl rfl
                · intro p hp
                  simp only [List.mem_cons] at hp
                  rcases hp with rfl | rfl | hp
                  · exact ne_lt (show @LT.lt Nat _ (L' + 1 + 1) (L' + 1 + 1 + 1) ∨ _ by omega)
                  · exact ne_lt (show @LT.lt Nat _ (L' + 1) (L' + 1 + 1 + 1) ∨ _ by omega)
                  · have := l1 p hp
                    exact ne_lt (show @LT.lt Nat _ p.1 (L' + 1 + 1 + 1) ∨ _ from .inl (Nat.lt_of_lt_of_le this (by omega)))
                · clear F₆ N₆ e1
                  intro h₈ o8 F₈ N₈ e1
                  try dsimp only at N₈
                  k_steps
                  refine unhold ?_
                  refine cut_tail X' T' F₈ N₈ e1 e2 e3 hz₆ hBl₆ hbit₆ hf1 hf2 ht1 ht2 ?_ ?_
                  · intro hc h₇ tk₇ m₇ F₇ N₇
                    rw [hcut] at hc
                    k_steps
                    exact hnone _ _ (by k_asm) (by assumption) hc
                  · intro out hc D₇ zs₇ n₇ h₇ tk₇ m₇ F₇ N₇ hlt₇ hi₇
                    rw [hcut] at hc
                    k_steps
                    exact hsome out _ _ _ _ _ (by k_asm) (by assumption) hi₇ hlt₇ hc
            · refine unhold ?_
              rename pad = false => hpd
              rename News _ _ _ _ => lN
              rename Fr _ _ _ _ => lF
              refine cut_tail X' T' lF lN e1 e2 e3 hzs (by omega) (by rw [hBs]; exact bits_bit fb ns) hf1 hf2 ht1 ht2 ?_ ?_
              · intro hc h₇ tk₇ m₇ F₇ N₇
                rw [hBs, cut_conv_no hf1 ht1 hz, ← hpd] at hc
                k_steps
                exact hnone _ _ (by k_asm) (by assumption) hc
              · intro out hc D₇ zs₇ n₇ h₇ tk₇ m₇ F₇ N₇ hlt₇ hi₇
                rw [hBs, cut_conv_no hf1 ht1 hz, ← hpd] at hc
                k_steps
                exact hsome out _ _ _ _ _ (by k_asm) (by assumption) hi₇ hlt₇ hc
    · have hye : ys.toArray.isEmpty = false := bad_cons hz hi₂
      rw [hye]
      k_steps
      rename News _ _ _ _ => nE
      exact hnone _ _ (by k_asm) (cb_drop nE (fun p hp => by simp only [List.mem_cons, hp, or_true])) (conv_unfit hz)
end Mine

-- part D0

namespace Mine
open PySem PySem.W PyProof.Rows PySem.Calls PySem.Spec
set_option maxRecDepth 100000
set_option maxHeartbeats 8000000
theorem calm_D0 : True := by
  w_top off
  exact trivial
def ConvTells4 (w : World) (mean : ExcName → Option Value) (mg mb : Str → Option Value) : Prop :=
  ∀ (dp un : Nat) (gd : Option (List Code)) (cn : Str) (cs : Scope) (a : Addr) (ccd : Value) (cl : List (Str × Addr)) (outer : List Env) (A₀ : Around) (base h₀ : Heap) (L : Addr) (m : Str → Option Value) (news : List (Addr × Obj)) (s : Shared) (l : Addr) (vs : List Value) (ns : List Int) (nn : Nat) (fb tb : Int) (t1 t2 : Tok) (pad : Bool)
    (Q E : Value → Shared → Prop),
    Below A₀ base outer h₀ → Fr h₀ L s.heap m → (hd.heap_39 w.params).In h₀ → News h₀ L s.heap news → Top hd.view_39 (looseW hd.view_39 [Str.ofString "convertbits"]) mean mg mb h₀ → cs.kind = .function →
    (l, listOf vs.toArray nn) ∈ news → IntsAre vs ns → ns.length < 1000 → 1 ≤ fb → fb ≤ 12 → 1 ≤ tb → tb ≤ 12 → dp + 1 < recursionLimit → un + 8 < cLine →
    (∀ h' tk', Fr h₀ L h' m → News h₀ L h' news → conv ns fb tb pad = none → Q .none { s with heap := h', toks := tk' }) →
    (∀ out l' vs' nn' h' tk', Fr h₀ L h' m → News h₀ L h' ((l', listOf vs'.toArray nn') :: news) → IntsAre vs' out → (∀ q ∈ news, q.1 < l') → conv ns fb tb pad = some out → Q (.ref l') { s with heap := h', toks := tk' }) →
    wpAny (model prog w) (ktrTop dp un gd cn cs L a ccd cl outer) (call (.ref 22) [.ref l, .int fb t1, .int tb t2, .bool pad]) Q E s

def ConvTells3 (w : World) (mean : ExcName → Option Value) (mg mb : Str → Option Value) : Prop :=
  ∀ (dp un : Nat) (gd : Option (List Code)) (cn : Str) (cs : Scope) (a : Addr) (ccd : Value) (cl : List (Str × Addr)) (outer : List Env) (A₀ : Around) (base h₀ : Heap) (L : Addr) (m : Str → Option Value) (news : List (Addr × Obj)) (s : Shared) (l : Addr) (vs : List Value) (ns : List Int) (nn : Nat) (fb tb : Int) (t1 t2 : Tok)
    (Q E : Value → Shared → Prop),
    Below A₀ base outer h₀ → Fr h₀ L s.heap m → (hd.heap_39 w.params).In h₀ → News h₀ L s.heap news → Top hd.view_39 (looseW hd.view_39 [Str.ofString "convertbits"]) mean mg mb h₀ → cs.kind = .function →
    (l, listOf vs.toArray nn) ∈ news → IntsAre vs ns → ns.length < 1000 → 1 ≤ fb → fb ≤ 12 → 1 ≤ tb → tb ≤ 12 → dp + 1 < recursionLimit → un + 8 < cLine →
    (∀ h' tk', Fr h₀ L h' m → News h₀ L h' news → conv ns fb tb true = none → Q .none { s with heap := h', toks := tk' }) →
    (∀ out l' vs' nn' h' tk', Fr h₀ L h' m → News h₀ L h' ((l', listOf vs'.toArray nn') :: news) → IntsAre vs' out → (∀ q ∈ news, q.1 < l') → conv ns fb tb true = some out → Q (.ref l') { s with heap := h', toks := tk' }) →
    wpAny (model prog w) (ktrTop dp un gd cn cs L a ccd cl outer) (call (.ref 22) [.ref l, .int fb t1, .int tb t2]) Q E s


theorem conv_tells4 (w : World) (mean : ExcName → Option Value) (mg mb : Str → Option Value) : ConvTells4 w mean mg mb := by
  unfold ConvTells4 prog
  k_fill
  intro dp un gd cn cs a ccd cl outer A₀ base h₀ L m news s l vs ns nn fb tb t1 t2 pad Q E B F X N T hk hl hi hlen hf1 hf2 ht1 ht2 hd1 hu1 hnone hsome
  refine wpAny_call ?_
  refine' code_def ?k1 ?k2 ?k3 ?k4 ?k5 ?kA ?kF ?kK ?k6 ?k7 ?k8 ?k9 ?kB ?_ ?c2 ?c3 ?c4 ?c5
  case kA => exact rfl
  case kF => exact rfl
  case kK => assumption
  case k1 => k_asm
  case k2 => k_asm
  case k3 => k_asm
  case k4 => k_asm
  case k5 => k_asm
  case k6 => k_is
  case k7 => k_is
  case k8 => ktr_room
  case k9 => exact binds_K (by k_in) rfl (by k_is) rfl rfl rfl
  case c5 => decide
  case kB => exact locs rfl
  case c2 => exact rfl
  case c3 => exact rfl
  case c4 => exact rfl
  intro g' L' h' FG' F' N' B' X' T'
  try dsimp only
  try k_lift B'
  refine conv_body (pad := pad) X' T' F' N' hl hi hlen hf1 hf2 ht1 ht2 (by passes_own) ?_ ?_
  · intro hc h₇ tk₇ m₇ F₇ N₇
    k_steps
    exact hnone _ _ (by k_asm) (by assumption) hc
  · intro out hc D₇ zs₇ n₇ h₇ tk₇ m₇ F₇ N₇ hlt₇ hi₇
    k_steps
    exact hsome out _ _ _ _ _ (by k_asm) (by assumption) hi₇ hlt₇ hc

theorem conv_tells3 (w : World) (mean : ExcName → Option Value) (mg mb : Str → Option Value) : ConvTells3 w mean mg mb := by
  unfold ConvTells3 prog
  k_fill
  intro dp un gd cn cs a ccd cl outer A₀ base h₀ L m news s l vs ns nn fb tb t1 t2 Q E B F X N T hk hl hi hlen hf1 hf2 ht1 ht2 hd1 hu1 hnone hsome
  refine wpAny_call ?_
  refine' code_def ?k1 ?k2 ?k3 ?k4 ?k5 ?kA ?kF ?kK ?k6 ?k7 ?k8 ?k9 ?kB ?_ ?c2 ?c3 ?c4 ?c5
  case kA => exact rfl
  case kF => exact rfl
  case kK => assumption
  case k1 => k_asm
  case k2 => k_asm
  case k3 => k_asm
  case k4 => k_asm
  case k5 => k_asm
  case k6 => k_is
  case k7 => k_is
  case k8 => ktr_room
  case k9 => exact binds_K (by k_in) rfl (by k_is) rfl rfl rfl
  case c5 => decide
  case kB => exact locs rfl
  case c2 => exact rfl
  case c3 => exact rfl
  case c4 => exact rfl
  intro g' L' h' FG' F' N' B' X' T'
  try dsimp only
  try k_lift B'
  refine conv_body (pad := true) X' T' F' N' hl hi hlen hf1 hf2 ht1 ht2 (by passes_own) ?_ ?_
  · intro hc h₇ tk₇ m₇ F₇ N₇
    k_steps
    exact hnone _ _ (by k_asm) (by assumption) hc
  · intro out hc D₇ zs₇ n₇ h₇ tk₇ m₇ F₇ N₇ hlt₇ hi₇
    k_steps
    exact hsome out _ _ _ _ _ (by k_asm) (by assumption) hi₇ hlt₇ hc
end Mine

-- part D1

namespace Mine
open PySem PySem.W PyProof.Rows PySem.Calls PySem.Spec
set_option maxRecDepth 100000
set_option maxHeartbeats 8000000
theorem calm_D1 : True := by
  w_top off
  exact trivial

theorem conv3_none {w : World} {mean : ExcName → Option Value} {mg mb : Str → Option Value} {dp un : Nat} {gd : Option (List Code)} {cn : Str} {cs : Scope} {a : Addr} {ccd : Value} {cl : List (Str × Addr)} {outer : List Env} {A₀ : Around} {base h₀ : Heap} {L : Addr} {m : Str → Option Value} {news : List (Addr × Obj)} {s : Shared} {l : Addr} {vs : List Value} {ns : List Int} {nn : Nat} {fb tb : Int} {t1 t2 : Tok}  {Q E : Value → Shared → Prop}
    (B : Below A₀ base outer h₀) (F : Fr h₀ L s.heap m) (X : (hd.heap_39 w.params).In h₀) (N : News h₀ L s.heap news) (T : Top hd.view_39 (looseW hd.view_39 [Str.ofString "convertbits"]) mean mg mb h₀) (hk : cs.kind = .function)
    (hl : (l, listOf vs.toArray nn) ∈ news) (hi : IntsAre vs ns) (hlen : ns.length < 1000) (hf1 : 1 ≤ fb) (hf2 : fb ≤ 12) (ht1 : 1 ≤ tb) (ht2 : tb ≤ 12) (hd1 : dp + 1 < recursionLimit) (hu1 : un + 8 < cLine)
    (hc : conv ns fb tb true = none)
    (h : ∀ h' tk', Fr h₀ L h' m → News h₀ L h' news → Q .none { s with heap := h', toks := tk' }) :
    wpAny (model prog w) (ktrTop dp un gd cn cs L a ccd cl outer) (call (.ref 22) [.ref l, .int fb t1, .int tb t2]) Q E s :=
  conv_tells3 w mean mg mb dp un gd cn cs a ccd cl outer A₀ base h₀ L m news s l vs ns nn fb tb t1 t2 Q E B F X N T hk hl hi hlen hf1 hf2 ht1 ht2 hd1 hu1 (fun h' tk' F' N' _ => h h' tk' F' N') (fun out l' vs' nn' h' tk' F' N' hi' lt' hc' => by rw [hc] at hc'; cases hc')
theorem conv3_some {w : World} {mean : ExcName → Option Value} {mg mb : Str → Option Value} {dp un : Nat} {gd : Option (List Code)} {cn : Str} {cs : Scope} {a : Addr} {ccd : Value} {cl : List (Str × Addr)} {outer : List Env} {A₀ : Around} {base h₀ : Heap} {L : Addr} {m : Str → Option Value} {news : List (Addr × Obj)} {s : Shared} {l : Addr} {vs : List Value} {ns : List Int} {nn : Nat} {fb tb : Int} {t1 t2 : Tok}  {Q E : Value → Shared → Prop}
    (B : Below A₀ base outer h₀) (F : Fr h₀ L s.heap m) (X : (hd.heap_39 w.params).In h₀) (N : News h₀ L s.heap news) (T : Top hd.view_39 (looseW hd.view_39 [Str.ofString "convertbits"]) mean mg mb h₀) (hk : cs.kind = .function)
    (hl : (l, listOf vs.toArray nn) ∈ news) (hi : IntsAre vs ns) (hlen : ns.length < 1000) (hf1 : 1 ≤ fb) (hf2 : fb ≤ 12) (ht1 : 1 ≤ tb) (ht2 : tb ≤ 12) (hd1 : dp + 1 < recursionLimit) (hu1 : un + 8 < cLine) {out : List Int}
    (hc : conv ns fb tb true = some out)
    (h : ∀ l' vs' nn' h' tk', Fr h₀ L h' m → News h₀ L h' ((l', listOf vs'.toArray nn') :: news) → (∀ q ∈ news, q.1 < l') → IntsAre vs' out → Q (.ref l') { s with heap := h', toks := tk' }) :
    wpAny (model prog w) (ktrTop dp un gd cn cs L a ccd cl outer) (call (.ref 22) [.ref l, .int fb t1, .int tb t2]) Q E s :=
  conv_tells3 w mean mg mb dp un gd cn cs a ccd cl outer A₀ base h₀ L m news s l vs ns nn fb tb t1 t2 Q E B F X N T hk hl hi hlen hf1 hf2 ht1 ht2 hd1 hu1 (fun h' tk' F' N' hc' => by rw [hc] at hc'; cases hc') (fun out l' vs' nn' h' tk' F' N' hi' lt' hc' => by rw [hc] at hc'; cases hc'; exact h l' vs' nn' h' tk' F' N' lt' hi')

theorem conv4_none {w : World} {mean : ExcName → Option Value} {mg mb : Str → Option Value} {dp un : Nat} {gd : Option (List Code)} {cn : Str} {cs : Scope} {a : Addr} {ccd : Value} {cl : List (Str × Addr)} {outer : List Env} {A₀ : Around} {base h₀ : Heap} {L : Addr} {m : Str → Option Value} {news : List (Addr × Obj)} {s : Shared} {l : Addr} {vs : List Value} {ns : List Int} {nn : Nat} {fb tb : Int} {t1 t2 : Tok} {pad : Bool} {Q E : Value → Shared → Prop}
    (B : Below A₀ base outer h₀) (F : Fr h₀ L s.heap m) (X : (hd.heap_39 w.params).In h₀) (N : News h₀ L s.heap news) (T : Top hd.view_39 (looseW hd.view_39 [Str.ofString "convertbits"]) mean mg mb h₀) (hk : cs.kind = .function)
    (hl : (l, listOf vs.toArray nn) ∈ news) (hi : IntsAre vs ns) (hlen : ns.length < 1000) (hf1 : 1 ≤ fb) (hf2 : fb ≤ 12) (ht1 : 1 ≤ tb) (ht2 : tb ≤ 12) (hd1 : dp + 1 < recursionLimit) (hu1 : un + 8 < cLine)
    (hc : conv ns fb tb pad = none)
    (h : ∀ h' tk', Fr h₀ L h' m → News h₀ L h' news → Q .none { s with heap := h', toks := tk' }) :
    wpAny (model prog w) (ktrTop dp un gd cn cs L a ccd cl outer) (call (.ref 22) [.ref l, .int fb t1, .int tb t2, .bool pad]) Q E s :=
  conv_tells4 w mean mg mb dp un gd cn cs a ccd cl outer A₀ base h₀ L m news s l vs ns nn fb tb t1 t2 pad Q E B F X N T hk hl hi hlen hf1 hf2 ht1 ht2 hd1 hu1 (fun h' tk' F' N' _ => h h' tk' F' N') (fun out l' vs' nn' h' tk' F' N' hi' lt' hc' => by rw [hc] at hc'; cases hc')
theorem conv4_some {w : World} {mean : ExcName → Option Value} {mg mb : Str → Option Value} {dp un : Nat} {gd : Option (List Code)} {cn : Str} {cs : Scope} {a : Addr} {ccd : Value} {cl : List (Str × Addr)} {outer : List Env} {A₀ : Around} {base h₀ : Heap} {L : Addr} {m : Str → Option Value} {news : List (Addr × Obj)} {s : Shared} {l : Addr} {vs : List Value} {ns : List Int} {nn : Nat} {fb tb : Int} {t1 t2 : Tok} {pad : Bool} {Q E : Value → Shared → Prop}
    (B : Below A₀ base outer h₀) (F : Fr h₀ L s.heap m) (X : (hd.heap_39 w.params).In h₀) (N : News h₀ L s.heap news) (T : Top hd.view_39 (looseW hd.view_39 [Str.ofString "convertbits"]) mean mg mb h₀) (hk : cs.kind = .function)
    (hl : (l, listOf vs.toArray nn) ∈ news) (hi : IntsAre vs ns) (hlen : ns.length < 1000) (hf1 : 1 ≤ fb) (hf2 : fb ≤ 12) (ht1 : 1 ≤ tb) (ht2 : tb ≤ 12) (hd1 : dp + 1 < recursionLimit) (hu1 : un + 8 < cLine) {out : List Int}
    (hc : conv ns fb tb pad = some out)
    (h : ∀ l' vs' nn' h' tk', Fr h₀ L h' m → News h₀ L h' ((l', listOf vs'.toArray nn') :: news) → (∀ q ∈ news, q.1 < l') → IntsAre vs' out → Q (.ref l') { s with heap := h', toks := tk' }) :
    wpAny (model prog w) (ktrTop dp un gd cn cs L a ccd cl outer) (call (.ref 22) [.ref l, .int fb t1, .int tb t2, .bool pad]) Q E s :=
  conv_tells4 w mean mg mb dp un gd cn cs a ccd cl outer A₀ base h₀ L m news s l vs ns nn fb tb t1 t2 pad Q E B F X N T hk hl hi hlen hf1 hf2 ht1 ht2 hd1 hu1 (fun h' tk' F' N' hc' => by rw [hc] at hc'; cases hc') (fun out l' vs' nn' h' tk' F' N' hi' lt' hc' => by rw [hc] at hc'; cases hc'; exact h l' vs' nn' h' tk' F' N' lt' hi')

theorem cut4_none {w : World} {mean : ExcName → Option Value} {mg mb : Str → Option Value} {dp un : Nat} {gd : Option (List Code)} {cn : Str} {cs : Scope} {a : Addr} {ccd : Value} {cl : List (Str × Addr)} {outer : List Env} {A₀ : Around} {base h₀ : Heap} {L : Addr} {m : Str → Option Value} {news : List (Addr × Obj)} {s : Shared} {l : Addr} {vs : List Value} {ns : List Int} {nn : Nat} {fb tb : Int} {t1 t2 : Tok} {pad : Bool} {Q E : Value → Shared → Prop}
    (B : Below A₀ base outer h₀) (F : Fr h₀ L s.heap m) (X : (hd.heap_39 w.params).In h₀) (N : News h₀ L s.heap news) (T : Top hd.view_39 (looseW hd.view_39 [Str.ofString "convertbits"]) mean mg mb h₀) (hk : cs.kind = .function)
    (hl : (l, listOf vs.toArray nn) ∈ news) (hi : IntsAre vs ns) (hlen : ns.length < 1000) (hf1 : 1 ≤ fb) (hf2 : fb ≤ 12) (ht1 : 1 ≤ tb) (ht2 : tb ≤ 12) (hd1 : dp + 1 < recursionLimit) (hu1 : un + 8 < cLine)
    (hc : conv ns fb tb pad = none)
    (h : ∀ h' tk', Fr h₀ L h' m → News h₀ L h' news → Q .none { s with heap := h', toks := tk' }) :
    wpAny (model prog w) (ktrTop dp un gd cn cs L a ccd cl outer) (call (.ref 27) [.ref l, .int fb t1, .int tb t2, .bool pad]) Q E s :=
  cut_tells w mean mg mb dp un gd cn cs a ccd cl outer A₀ base h₀ L m news s l vs ns nn fb tb t1 t2 pad Q E B F X N T hk hl hi hlen hf1 hf2 ht1 ht2 hd1 hu1 (fun h' tk' F' N' _ => h h' tk' F' N') (fun out l' vs' nn' h' tk' F' N' hi' lt' hc' => by rw [hc] at hc'; cases hc')
theorem cut4_some {w : World} {mean : ExcName → Option Value} {mg mb : Str → Option Value} {dp un : Nat} {gd : Option (List Code)} {cn : Str} {cs : Scope} {a : Addr} {ccd : Value} {cl : List (Str × Addr)} {outer : List Env} {A₀ : Around} {base h₀ : Heap} {L : Addr} {m : Str → Option Value} {news : List (Addr × Obj)} {s : Shared} {l : Addr} {vs : List Value} {ns : List Int} {nn : Nat} {fb tb : Int} {t1 t2 : Tok} {pad : Bool} {Q E : Value → Shared → Prop}
    (B : Below A₀ base outer h₀) (F : Fr h₀ L s.heap m) (X : (hd.heap_39 w.params).In h₀) (N : News h₀ L s.heap news) (T : Top hd.view_39 (looseW hd.view_39 [Str.ofString "convertbits"]) mean mg mb h₀) (hk : cs.kind = .function)
    (hl : (l, listOf vs.toArray nn) ∈ news) (hi : IntsAre vs ns) (hlen : ns.length < 1000) (hf1 : 1 ≤ fb) (hf2 : fb ≤ 12) (ht1 : 1 ≤ tb) (ht2 : tb ≤ 12) (hd1 : dp + 1 < recursionLimit) (hu1 : un + 8 < cLine) {out : List Int}
    (hc : conv ns fb tb pad = some out)
    (h : ∀ l' vs' nn' h' tk', Fr h₀ L h' m → News h₀ L h' ((l', listOf vs'.toArray nn') :: news) → (∀ q ∈ news, q.1 < l') → IntsAre vs' out → Q (.ref l') { s with heap := h', toks := tk' }) :
    wpAny (model prog w) (ktrTop dp un gd cn cs L a ccd cl outer) (call (.ref 27) [.ref l, .int fb t1, .int tb t2, .bool pad]) Q E s :=
  cut_tells w mean mg mb dp un gd cn cs a ccd cl outer A₀ base h₀ L m news s l vs ns nn fb tb t1 t2 pad Q E B F X N T hk hl hi hlen hf1 hf2 ht1 ht2 hd1 hu1 (fun h' tk' F' N' hc' => by rw [hc] at hc'; cases hc') (fun out l' vs' nn' h' tk' F' N' hi' lt' hc' => by rw [hc] at hc'; cases hc'; exact h l' vs' nn' h' tk' F' N' lt' hi')
end Mine

-- part D2

namespace Mine
open PySem PySem.W PyProof.Rows PySem.Calls PySem.Spec
set_option maxRecDepth 100000
set_option maxHeartbeats 8000000
theorem calm_D2 : True := by
  w_top off
  exact trivial
local macro_rules | `(tactic| walk_at "call ref") => `(tactic| (k_here; k_dflt (first
  | (refine' Mine.conv3_some ?B ?F ?X ?N ?T ?hk ?hl ?hi ?hlen ?f1 ?f2 ?t1 ?t2 ?hd ?hu ?hc ?_; (case B => assumption); (case F => k_asm); (case X => assumption); (case N => k_asm); (case T => assumption); (case hk => exact rfl); (case hl => k_mem); (case hi => assumption); (case hlen => assumption); (case f1 => assumption); (case f2 => assumption); (case t1 => assumption); (case t2 => assumption); (case hd => ktr_room); (case hu => ktr_units); (case hc => assumption); intro l9 vs9 nn9 h9' tk9 F9 N9 lt9 i9; (try dsimp only); (try k_fold))
  | (refine' Mine.conv3_none ?B ?F ?X ?N ?T ?hk ?hl ?hi ?hlen ?f1 ?f2 ?t1 ?t2 ?hd ?hu ?hc ?_; (case B => assumption); (case F => k_asm); (case X => assumption); (case N => k_asm); (case T => assumption); (case hk => exact rfl); (case hl => k_mem); (case hi => assumption); (case hlen => assumption); (case f1 => assumption); (case f2 => assumption); (case t1 => assumption); (case t2 => assumption); (case hd => ktr_room); (case hu => ktr_units); (case hc => assumption); intro h9' tk9 F9 N9; (try dsimp only); (try k_fold))
  | (refine' Mine.conv4_some ?B ?F ?X ?N ?T ?hk ?hl ?hi ?hlen ?f1 ?f2 ?t1 ?t2 ?hd ?hu ?hc ?_; (case B => assumption); (case F => k_asm); (case X => assumption); (case N => k_asm); (case T => assumption); (case hk => exact rfl); (case hl => k_mem); (case hi => assumption); (case hlen => assumption); (case f1 => assumption); (case f2 => assumption); (case t1 => assumption); (case t2 => assumption); (case hd => ktr_room); (case hu => ktr_units); (case hc => assumption); intro l9 vs9 nn9 h9' tk9 F9 N9 lt9 i9; (try dsimp only); (try k_fold))
  | (refine' Mine.conv4_none ?B ?F ?X ?N ?T ?hk ?hl ?hi ?hlen ?f1 ?f2 ?t1 ?t2 ?hd ?hu ?hc ?_; (case B => assumption); (case F => k_asm); (case X => assumption); (case N => k_asm); (case T => assumption); (case hk => exact rfl); (case hl => k_mem); (case hi => assumption); (case hlen => assumption); (case f1 => assumption); (case f2 => assumption); (case t1 => assumption); (case t2 => assumption); (case hd => ktr_room); (case hu => ktr_units); (case hc => assumption); intro h9' tk9 F9 N9; (try dsimp only); (try k_fold))
  | (refine' Mine.cut4_some ?B ?F ?X ?N ?T ?hk ?hl ?hi ?hlen ?f1 ?f2 ?t1 ?t2 ?hd ?hu ?hc ?_; (case B => assumption); (case F => k_asm); (case X => assumption); (case N => k_asm); (case T => assumption); (case hk => exact rfl); (case hl => k_mem); (case hi => assumption); (case hlen => assumption); (case f1 => assumption); (case f2 => assumption); (case t1 => assumption); (case t2 => assumption); (case hd => ktr_room); (case hu => ktr_units); (case hc => assumption); intro l9 vs9 nn9 h9' tk9 F9 N9 lt9 i9; (try dsimp only); (try k_fold))
  | (refine' Mine.cut4_none ?B ?F ?X ?N ?T ?hk ?hl ?hi ?hlen ?f1 ?f2 ?t1 ?t2 ?hd ?hu ?hc ?_; (case B => assumption); (case F => k_asm); (case X => assumption); (case N => k_asm); (case T => assumption); (case hk => exact rfl); (case hl => k_mem); (case hi => assumption); (case hlen => assumption); (case f1 => assumption); (case f2 => assumption); (case t1 => assumption); (case t2 => assumption); (case hd => ktr_room); (case hu => ktr_units); (case hc => assumption); intro h9' tk9 F9 N9; (try dsimp only); (try k_fold))
  | refine Mine.hold ?_)))

local macro_rules | `(tactic| walk_at "subscriptTail Name Slice ref ref") => `(tactic| (k_here; (with_reducible show wpAny _ _ (subscriptTail _ (PySem.Expr.Slice none (some _) none _) (Value.ref _) (Value.ref _)) _ _ _); k_dflt (refine' kmk_slice_ints ?F ?N ?l ?p ?q ?i ?m ?c ?_ ?s ?t ?z; (case F => k_asm); (case N => k_asm); (case l => exact News.isList (by k_asm) (by k_mem)); (case p => kmk_part); (case q => kmk_part); (case i => assumption); (case m => exact kmk_upto (by assumption) (Int.natCast_nonneg _)); (case c => exact rfl); (case s => with_unfolding_all rfl); (case t => kmk_pure); (case z => (rw [List.size_toArray, IntsAre.length (by assumption), sizeLine_eq]; simp only [List.length_append]; omega))); intro D' ws' h' F' N' l1 hI' hC' hL'; (try k_lt l1); (try k_sweep)))
local macro_rules | `(tactic| walk_at "subscriptTail Name Slice ref ref") => `(tactic| (k_here; (with_reducible show wpAny _ _ (subscriptTail _ (PySem.Expr.Slice (some _) none none _) (Value.ref _) (Value.ref _)) _ _ _); k_dflt (refine' kmk_slice_ints ?F ?N ?l ?p ?q ?i ?m ?c ?_ ?s ?t ?z; (case F => k_asm); (case N => k_asm); (case l => exact News.isList (by k_asm) (by k_mem)); (case p => kmk_part); (case q => kmk_part); (case i => assumption); (case m => exact kmk_from (by assumption) (Int.natCast_nonneg _)); (case c => exact rfl); (case s => with_unfolding_all rfl); (case t => kmk_pure); (case z => (rw [List.size_toArray, IntsAre.length (by assumption), sizeLine_eq]; simp only [List.length_append]; omega))); intro D' ws' h' F' N' l1 hI' hC' hL'; (try k_lt l1); (try k_sweep)))

def lawDef : Option (List Stmt × Scope) := match PySem.Challenge.pw_bp0001_01.main.body with
  | [_, _, _, _, .FunctionDef _ _ body _ _ _ scope _ _ _] => some (body, scope)
  | _ => none
def lawScope : Scope := match lawDef with | some (_, s) => s | none => default
def lawTail : List Stmt := match lawDef with | some (b, _) => b.drop 4 | none => []

theorem drop_zero_sum (G : List Int) {zs : List Int} (hz : zs.sum = 0) : ((List.drop ((G.length : Int)).toNat (G ++ zs)).sum == 0) = true := by simp [hz]
theorem take_self (G zs : List Int) : List.take ((G.length : Int)).toNat (G ++ zs) = G := by simp
theorem law_tail_bad {w : World} {mean : ExcName → Option Value} {mg mb : Str → Option Value} {fa cdv : Addr} {g : Heap} {L : Addr} {m₁ : Str → Option Value} {s : Shared} {D : Addr} {gs : List Value} {nD : Nat} {oc : Obj} {G : List Int} {wb ob : Int} {t1 t2 : Tok} {Q : Flow → Shared → Prop} {E : Value → Shared → Prop}
    (K0 : Below callerA g [] g) (X : (hd.heap_39 w.params).In g) (T : Top hd.view_39 (looseW hd.view_39 [Str.ofString "convertbits"]) mean mg mb g)
    (F : Fr g L s.heap (fun y => if y = Str.ofString "groups" then some (.ref D) else if y = Str.ofString "other" then some (.int ob t2) else m₁ y))
    (N : News g L s.heap [(D, listOf gs.toArray nD), (L + 1, oc)]) (ec : oc.data = .cell (some (.int wb t1))) (hLD : L + 1 < D)
    (hi : IntsAre gs G) (hlen : G.length < 1000) (hw1 : 1 ≤ wb) (hw2 : wb ≤ 12) (ho1 : 1 ≤ ob) (ho2 : ob ≤ 12)
    (hc1 : conv G wb ob true = none) (hc2 : conv G wb ob false = none)
    (hQ : ∀ h' tk' m', Fr g L h' m' → Q (.ret (.bool true)) { s with heap := h', toks := tk' }) :
    wpAny (model PySem.Challenge.rw_bp0001_01.row.prog w) (callerA.deeper (envOfC (Str.ofString "law") lawScope L fa (.ref cdv))) (execs lawTail (envOfC (Str.ofString "law") lawScope L fa (.ref cdv))) Q E s := by
  revert X
  k_fill
  intro X
  have kMk : KstMark := kstMark
  dsimp only [lawTail, lawScope, lawDef, PySem.Challenge.pw_bp0001_01, List.drop_succ_cons, List.drop_zero]
  k_steps
  exact hQ _ _ _ (by assumption)

theorem law_tail_none {w : World} {mean : ExcName → Option Value} {mg mb : Str → Option Value} {fa cdv : Addr} {g : Heap} {L : Addr} {m₁ : Str → Option Value} {s : Shared} {D : Addr} {gs : List Value} {nD : Nat} {oc : Obj} {G : List Int} {wb ob : Int} {t1 t2 : Tok} {Q : Flow → Shared → Prop} {E : Value → Shared → Prop}
    (K0 : Below callerA g [] g) (X : (hd.heap_39 w.params).In g) (T : Top hd.view_39 (looseW hd.view_39 [Str.ofString "convertbits"]) mean mg mb g)
    (F : Fr g L s.heap (fun y => if y = Str.ofString "groups" then some (.ref D) else if y = Str.ofString "other" then some (.int ob t2) else m₁ y))
    (N : News g L s.heap [(D, listOf gs.toArray nD), (L + 1, oc)]) (ec : oc.data = .cell (some (.int wb t1))) (hLD : L + 1 < D)
    (hi : IntsAre gs G) (hlen : G.length < 1000) (hw1 : 1 ≤ wb) (hw2 : wb ≤ 12) (ho1 : 1 ≤ ob) (ho2 : ob ≤ 12)
    {W zs : List Int} (hlenW : W.length < 1000) (hc1 : conv G wb ob true = some W) (hc2 : conv G wb ob false = none) (hc3 : conv W ob wb false = some (G ++ zs)) (hz : zs.sum = 0) (hzl : zs.length < 1000)
    (hQ : ∀ h' tk' m', Fr g L h' m' → Q (.ret (.bool true)) { s with heap := h', toks := tk' }) :
    wpAny (model PySem.Challenge.rw_bp0001_01.row.prog w) (callerA.deeper (envOfC (Str.ofString "law") lawScope L fa (.ref cdv))) (execs lawTail (envOfC (Str.ofString "law") lawScope L fa (.ref cdv))) Q E s := by
  revert X
  k_fill
  intro X
  have kMk : KstMark := kstMark
  dsimp only [lawTail, lawScope, lawDef, PySem.Challenge.pw_bp0001_01, List.drop_succ_cons, List.drop_zero]
  k_steps
  · rw [drop_zero_sum G hz]
    exact hQ _ _ _ (by assumption)
  · rename ¬ List.take _ _ = G => q
    exact absurd (take_self G zs) q

theorem law_tail_some {w : World} {mean : ExcName → Option Value} {mg mb : Str → Option Value} {fa cdv : Addr} {g : Heap} {L : Addr} {m₁ : Str → Option Value} {s : Shared} {D : Addr} {gs : List Value} {nD : Nat} {oc : Obj} {G : List Int} {wb ob : Int} {t1 t2 : Tok} {Q : Flow → Shared → Prop} {E : Value → Shared → Prop}
    (K0 : Below callerA g [] g) (X : (hd.heap_39 w.params).In g) (T : Top hd.view_39 (looseW hd.view_39 [Str.ofString "convertbits"]) mean mg mb g)
    (F : Fr g L s.heap (fun y => if y = Str.ofString "groups" then some (.ref D) else if y = Str.ofString "other" then some (.int ob t2) else m₁ y))
    (N : News g L s.heap [(D, listOf gs.toArray nD), (L + 1, oc)]) (ec : oc.data = .cell (some (.int wb t1))) (hLD : L + 1 < D)
    (hi : IntsAre gs G) (hlen : G.length < 1000) (hw1 : 1 ≤ wb) (hw2 : wb ≤ 12) (ho1 : 1 ≤ ob) (ho2 : ob ≤ 12)
    {W zs P : List Int} (hlenW : W.length < 1000) (hc1 : conv G wb ob true = some W) (hc2 : conv G wb ob false = some P) (hc3 : conv W ob wb false = some (G ++ zs)) (hz : zs.sum = 0) (hzl : zs.length < 1000)
    (hQ : ∀ h' tk' m', Fr g L h' m' → Q (.ret (.bool true)) { s with heap := h', toks := tk' }) :
    wpAny (model PySem.Challenge.rw_bp0001_01.row.prog w) (callerA.deeper (envOfC (Str.ofString "law") lawScope L fa (.ref cdv))) (execs lawTail (envOfC (Str.ofString "law") lawScope L fa (.ref cdv))) Q E s := by
  revert X
  k_fill
  intro X
  have kMk : KstMark := kstMark
  dsimp only [lawTail, lawScope, lawDef, PySem.Challenge.pw_bp0001_01, List.drop_succ_cons, List.drop_zero]
  k_steps
  · rw [drop_zero_sum G hz]
    exact hQ _ _ _ (by assumption)
  · rename ¬ List.take _ _ = G => q
    exact absurd (take_self G zs) q

end Mine

-- part D3

namespace Mine
open PySem PySem.W PyProof.Rows PySem.Calls PySem.Spec
set_option maxRecDepth 100000
set_option maxHeartbeats 2000000
theorem calm_D3 : True := by
  w_top off
  exact trivial
-- one rule more, so that the count of the rules differs from that of the block ahead (the walker keeps its table by that count)
local macro_rules | `(tactic| walk_at "MinePad") => `(tactic| (refine Mine.hold ?_))
local macro_rules | `(tactic| walk_at "truthy ref") => `(tactic| (k_here; refine Mine.hold ?_))
local macro_rules | `(tactic| walk_at "setItem ref int") => `(tactic| (k_here; refine Mine.hold ?_))
local macro_rules | `(tactic| walk_at "execs cons") => `(tactic| (k_here; (with_reducible show wpAny _ _ (execs [Stmt.Assign _ _ _, Stmt.If _ _ _ _, Stmt.If _ _ _ _, Stmt.Assign _ _ _, Stmt.If _ _ _ _, Stmt.Return _ _] _) _ _ _); refine Mine.hold ?_))

def lawIf : List Stmt := match lawDef with | some (b, _) => b.drop 3 | none => []

theorem law_tail {w : World} {mean : ExcName → Option Value} {mg mb : Str → Option Value} {fa cdv : Addr} {g : Heap} {L : Addr} {m₁ : Str → Option Value} {s : Shared} {D : Addr} {gs : List Value} {nD : Nat} {oc : Obj} {G : List Int} {wb ob : Int} {t1 t2 : Tok} {Q : Flow → Shared → Prop} {E : Value → Shared → Prop}
    (K0 : Below callerA g [] g) (X : (hd.heap_39 w.params).In g) (T : Top hd.view_39 (looseW hd.view_39 [Str.ofString "convertbits"]) mean mg mb g)
    (F : Fr g L s.heap (fun y => if y = Str.ofString "groups" then some (.ref D) else if y = Str.ofString "other" then some (.int ob t2) else m₁ y))
    (N : News g L s.heap [(D, listOf gs.toArray nD), (L + 1, oc)]) (ec : oc.data = .cell (some (.int wb t1))) (hLD : L + 1 < D)
    (hi : IntsAre gs G) (hlen : G.length ≤ 48) (hw1 : 1 ≤ wb) (hw2 : wb ≤ 12) (ho1 : 1 ≤ ob) (ho2 : ob ≤ 12)
    (hQ : ∀ h' tk' m', Fr g L h' m' → Q (.ret (.bool true)) { s with heap := h', toks := tk' }) :
    wpAny (model PySem.Challenge.rw_bp0001_01.row.prog w) (callerA.deeper (envOfC (Str.ofString "law") lawScope L fa (.ref cdv))) (execs lawTail (envOfC (Str.ofString "law") lawScope L fa (.ref cdv))) Q E s := by
  rcases conv_cases hlen hw1 hw2 ho1 ho2 with ⟨h1, h2⟩ | ⟨W, zs, h1, h2, h3, h4, h5⟩
  · exact law_tail_bad K0 X T F N ec hLD hi (by omega) hw1 hw2 ho1 ho2 h1 h2 hQ
  · cases h6 : conv G wb ob false with
    | none => exact law_tail_none K0 X T F N ec hLD hi (by omega) hw1 hw2 ho1 ho2 h1 h2 h6 h3 h4 h5 hQ
    | some P => exact law_tail_some K0 X T F N ec hLD hi (by omega) hw1 hw2 ho1 ho2 h1 h2 h6 h3 h4 h5 hQ

theorem law_if {w : World} {mean : ExcName → Option Value} {mg mb : Str → Option Value} {fa cdv : Addr} {g : Heap} {L : Addr} {m₁ : Str → Option Value} {s : Shared} {D Dn : Addr} {gs nvs : List Value} {nD nn : Nat} {oc : Obj} {G Ns : List Int} {wb ob : Int} {t1 t2 : Tok} {Q : Flow → Shared → Prop} {E : Value → Shared → Prop}
    (K0 : Below callerA g [] g) (X : (hd.heap_39 w.params).In g) (T : Top hd.view_39 (looseW hd.view_39 [Str.ofString "convertbits"]) mean mg mb g)
    (F : Fr g L s.heap (fun y => if y = Str.ofString "groups" then some (.ref D) else if y = Str.ofString "other" then some (.int ob t2) else if y = Str.ofString "numbers" then some (.ref Dn) else m₁ y))
    (N : News g L s.heap [(D, listOf gs.toArray nD), (Dn, listOf nvs.toArray nn), (L + 1, oc)]) (ec : oc.data = .cell (some (.int wb t1))) (hLD : L + 1 < Dn) (hDD : Dn < D)
    (hi : IntsAre gs G) (hlen : G.length ≤ 48) (hni : IntsAre nvs Ns) (hnl : 3 ≤ Ns.length) (hnl2 : Ns.length ≤ 18) (hw1 : 1 ≤ wb) (hw2 : wb ≤ 12) (ho1 : 1 ≤ ob) (ho2 : ob ≤ 12)
    (hQ : ∀ h' tk' m', Fr g L h' m' → Q (.ret (.bool true)) { s with heap := h', toks := tk' }) :
    wpAny (model PySem.Challenge.rw_bp0001_01.row.prog w) (callerA.deeper (envOfC (Str.ofString "law") lawScope L fa (.ref cdv))) (execs lawIf (envOfC (Str.ofString "law") lawScope L fa (.ref cdv))) Q E s := by
  revert X
  k_fill
  intro X
  have kMk : KstMark := kstMark
  dsimp only [lawIf, lawScope, lawDef, PySem.Challenge.pw_bp0001_01, List.drop_succ_cons, List.drop_zero]
  k_steps
  · refine unhold ?_
    rename News _ _ _ _ => lN
    rename Fr _ _ _ _ => lF
    have hgl := IntsAre.length hi
    refine wpAny_truthy_list (News.isList lN (.head _)) (by rw [List.size_toArray]; omega) ?_
    by_cases he : gs.toArray.isEmpty = true
    · rw [he]
      have keep2 := And.intro lF lN
      k_steps
      refine unhold ?_
      obtain ⟨lF, lN⟩ := keep2
      exact law_tail K0 X T lF (cb_drop (news := [(D, W.listOf gs.toArray nD), (L + 1, oc)]) lN (by simp)) ec (Nat.lt_trans hLD hDD) hi hlen hw1 hw2 ho1 ho2 (fun h' tk' m' F' => hQ h' tk' m' F')
    · have he2 : gs.toArray.isEmpty = false := by simpa using he
      have hg1 : 1 ≤ G.length := by
        rw [← hgl]
        cases gs with
        | nil => simp at he
        | cons _ _ => simp
      rw [he2]
      k_steps
      all_goals
        refine unhold ?_
        obtain ⟨hx0, hx1⟩ := fmod_facts2 (x := (Ns.getD (Int.toNat 2) 0).fdiv 8) (tb := (G.length : Int)) (by omega)
        rename News _ _ _ _ => lN
        rename Fr _ _ _ _ => lF
        have lN := cb_drop (news := [(D, W.listOf gs.toArray nD), (L + 1, oc)]) lN (by simp)
        refine ksa_set lF lN (.head (by intro p hp; rw [List.mem_singleton.mp hp]; exact Nat.ne_of_lt (Nat.lt_trans hLD hDD))) hi hx0 hx1 (by omega) ?_
        intro h₆ F₆ N₆ hi₆ hl₆ _
        clear lF lN
        k_steps
        refine unhold ?_
        exact law_tail K0 X T F₆ N₆ ec (Nat.lt_trans hLD hDD) hi₆ (by omega) hw1 hw2 ho1 ho2 (fun h' tk' m' F' => hQ h' tk' m' F')
  · refine unhold ?_
    rename News _ _ _ _ => lN
    rename Fr _ _ _ _ => lF
    exact law_tail K0 X T lF (cb_drop (news := [(D, W.listOf gs.toArray nD), (L + 1, oc)]) lN (by simp)) ec (Nat.lt_trans hLD hDD) hi hlen hw1 hw2 ho1 ho2 (fun h' tk' m' F' => hQ h' tk' m' F')
end Mine

-- part D4

namespace Mine
open PySem PySem.W PyProof.Rows PySem.Calls PySem.Spec
set_option maxRecDepth 100000
set_option maxHeartbeats 8000000
theorem calm_D4 : True := by
  w_top off
  exact trivial
local macro_rules | `(tactic| walk_at "execs cons") => `(tactic| (k_here; (with_reducible show wpAny _ _ (execs [Stmt.If _ _ _ _, Stmt.Assign _ _ _, Stmt.If _ _ _ _, Stmt.If _ _ _ _, Stmt.Assign _ _ _, Stmt.If _ _ _ _, Stmt.Return _ _] _) _ _ _); refine Mine.hold ?_))
local macro_rules | `(tactic| walk_at "subscriptTail Name Slice ref ref") => `(tactic| (k_here; (with_reducible show wpAny _ _ (subscriptTail _ (PySem.Expr.Slice (some _) (some _) none _) (Value.ref _) (Value.ref _)) _ _ _); k_dflt (refine' kmk_slice_ints ?F ?N ?l ?p ?q ?i ?m ?c ?_ ?s ?t ?z; (case F => k_asm); (case N => k_asm); (case l => kmk_list); (case p => kmk_part); (case q => kmk_part); (case i => l_ints); (case m => exact kmk_run (by l_ints) (by decide) (by decide)); (case c => exact rfl); (case s => with_unfolding_all rfl); (case t => kmk_pure); (case z => kmk_size)); intro D' ws' h' F' N' l1 hI' hC' hL'; (try simp only [Int.reduceNeg, Int.neg_neg, Int.reduceToNat] at hI' hC' hL'); (try k_lt l1); (try k_sweep)))
local macro_rules | `(tactic| walk_at "subscriptTail Name Slice ref ref") => `(tactic| (k_here; (with_reducible show wpAny _ _ (subscriptTail _ (PySem.Expr.Slice none (some _) none _) (Value.ref _) (Value.ref _)) _ _ _); k_dflt (refine' kmk_slice_ints ?F ?N ?l ?p ?q ?i ?m ?c ?_ ?s ?t ?z; (case F => k_asm); (case N => k_asm); (case l => kmk_list); (case p => kmk_part); (case q => kmk_part); (case i => l_ints); (case m => exact kmk_upto (by l_ints) (by decide)); (case c => exact rfl); (case s => with_unfolding_all rfl); (case t => kmk_pure); (case z => kmk_size)); intro D' ws' h' F' N' l1 hI' hC' hL'; (try simp only [Int.reduceNeg, Int.neg_neg, Int.reduceToNat] at hI' hC' hL'); (try k_lt l1); (try k_sweep)))

theorem glen_of {vs : List Value} {L : List Int} {k : Nat} (_ : IntsAre vs (List.replicate k L).flatten) (hL : L.length ≤ 12) (hk : k ≤ 4) : (List.replicate k L).flatten.length ≤ 48 := by
  have e : (List.replicate k L).flatten.length = k * L.length := by simp
  rw [e]
  exact Nat.le_trans (Nat.mul_le_mul hk hL) (by decide)

theorem news3 {h₀ h : Heap} {L : Addr} {l : List (Addr × Obj)} {a b c : Addr × Obj} (N : News h₀ L h l) (ha : a ∈ l) (hb : b ∈ l) (hc : c ∈ l) : News h₀ L h [a, b, c] := by
  intro p hp
  rcases List.mem_cons.mp hp with rfl | hp
  · exact N _ ha
  · rcases List.mem_cons.mp hp with rfl | hp
    · exact N _ hb
    · rw [List.mem_singleton.mp hp]
      exact N _ hc

theorem law_walk : PySem.Challenge.rw_bp0001_01.Holds := hd (by
  k_go0
  all_goals try k_fold
  k_steps
  refine unhold ?_
  rename News _ _ _ _ => lN
  rename Fr _ _ _ _ => lF
  rename IntsAre (List.flatten _) (List.flatten _) => iG
  rename IntsAre _ (List.take 15 _ ++ [0, 0, 0]) => iN
  rename Below _ _ _ _ => K0
  refine' law_if K0 ?X ?T lF (news3 lN ?m1 ?m2 ?m3) ?ec ?l1 ?l2 iG (glen_of iG ?g1 ?g2) iN ?n1 ?n2 ?w1 ?w2 ?o1 ?o2 ?q
  case X => assumption
  case T => assumption
  case m1 => exact .head _
  case m2 => exact .tail _ (.tail _ (.tail _ (.tail _ (.head _))))
  case m3 => exact .tail _ (.tail _ (.tail _ (.tail _ (.tail _ (.tail _ (.tail _ (.head _)))))))
  case ec => assumption
  case g1 =>
    simp only [List.length_map, List.length_take, List.length_drop]
    omega
  case g2 =>
    have q4 : ∀ x : Int, (x.fmod 4 + 1).toNat ≤ 4 := fun x => by
      have := fmod_facts2 (x := x) (tb := 4) (by decide)
      omega
    exact q4 _
  case n1 => simp
  case n2 =>
    simp only [List.length_append, List.length_take, List.length_cons, List.length_nil]
    omega
  case w1 => exact Int.le_add_of_nonneg_left (fmod_facts2 (by decide)).1
  case w2 => exact Int.add_one_le_of_lt (fmod_facts2 (by decide)).2
  case o1 => exact Int.le_add_of_nonneg_left (fmod_facts2 (by decide)).1
  case o2 => exact Int.add_one_le_of_lt (fmod_facts2 (by decide)).2
  case l1 =>
    rename _ < _ ∧ _ < _ ∧ (_ : Nat) < _ => q
    exact q.2.2
  case l2 =>
    rename _ < _ ∧ _ < _ ∧ _ < _ ∧ (_ : Nat) < _ ∧ _ => q
    exact q.2.2.2.1
  case q =>
    intro h₆ tk₆ m₆ F₆
    k_steps)
end Mine

theorem PySem.Challenge.cw_bp0001_01_holds : PySem.Challenge.rw_bp0001_01.Holds :=
  Mine.law_walk
