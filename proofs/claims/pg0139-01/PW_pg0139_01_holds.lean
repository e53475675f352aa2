import PyProof.Rows.All
import Wide.All
import OpenK.AllK
import Wide.FinOn
import PyProof.FactsAll.tuple_2
import PyProof.FactsAll.range_2
import PyProof.FactsAll.range_iterator_1
import Lean
import PySem.Challenge.RW_pg0139_01
set_option Elab.async false
namespace Mine
set_option maxRecDepth 100000
set_option maxHeartbeats 8000000
open PySem PySem.Spec PySem.Calls PySem.W PyProof.Rows
section
noncomputable def vw : Program := view PySem.Challenge.pw_pg0139_01 [1, 3, 4, 5, 6, 7, 8, 10, 12, 13, 14, 15, 16, 17, 18, 19, 20, 21, 22]
noncomputable def topQ (p : Program) (w : World) (N : Nat) (s₀ : Shared) : Option Shared :=
  match s₀.heap.isNs mainGlobals && s₀.gens.size == 0 with
  | true => (PySem.W.Fast.tw14082659384304107361 PySem.W.Fast.tw14364793385576792824 p w s₀.heap.objs.size (s₀.heap.nsMap mainGlobals "__annotations__") N s₀ (topStub p)).bind fun s₁ => match staticsOk (importedModules p.main.body) s₀.heap s₁.heap && namesBound p s₁.heap && gensDone s₁ && laidKept s₀.heap s₁.heap with
      | true => some s₁
      | false => none
  | false => none
theorem topQ_eq : topFrom treeTable = topQ := by
  funext p w N s₀
  unfold topFrom topQ
  rw [← PySem.W.Fast.te14082659384304107361, ← PySem.W.Fast.te14364793385576792824]
  rfl
noncomputable abbrev booted (w : World) (os : OsState) : Shared := ⟨boot_heap w.params, Array.mk [], boot_drawn, boot_toks, os⟩
theorem left_of {p q : Program} {loose : List Str} {Xt : Shared → Bool} {α : Type} {Yf : Shared → α} {Ya : World → α} {N : Nat}
   (e : opening p = plainProg p.main.scope.names) (hN : Nat.ble 600 N = true) (f : ∀ s, fenceModules? p s = some s)
   (h : ∀ (w : World) (os : OsState), (topQ p w N (booted w os)).map (fun s => PySem.W.Fast.tw4187177175401517315 q loose (importedModules p.main.body) Xt true s) = some (openGood q loose))
   (g : ∀ (w : World) (os : OsState), (topQ p w N (booted w os)).map Yf = some (Ya w)) :
   LeftO p q loose Xt Yf Ya N := fun w => by
  obtain ⟨⟨h', gs, d, k, os⟩, e1, e2⟩ := Option.map_eq_some_iff.mp (boot_open e hN f w)
  obtain ⟨rfl, rfl, rfl, rfl⟩ : h' = boot_heap w.params ∧ gs = Array.mk [] ∧ d = boot_drawn ∧ k = boot_toks := by simpa using e2
  unfold openEnds
  rw [e1, PySem.W.Fast.te4187177175401517315]
  show (topFrom treeTable p w N _).map _ = _
  rw [topQ_eq]
  obtain ⟨s, a, b⟩ := Option.map_eq_some_iff.mp (h w os)
  obtain ⟨s', a', b'⟩ := Option.map_eq_some_iff.mp (g w os)
  obtain rfl : s = s' := Option.some.inj (a.symm.trans a')
  show (topQ p w N (booted w os)).map _ = _
  rw [a]
  show some (_, _) = _
  rw [b, b']
theorem row_well : OpenLaw.wellSaid PySem.Challenge.rw_pg0139_01 = true := by
  rw [PySem.W.Fast.te9446332074065402090]
  kernel_rfl
theorem run_seen : ∀ (w : World) (os : OsState), (topQ PySem.Challenge.pw_pg0139_01 w 1980 (booted w os)).map (fun s => PySem.W.Fast.tw4187177175401517315 vw [] (importedModules PySem.Challenge.pw_pg0139_01.main.body) (fun s => xlAt vw [] s && recOk (RowW.records (OpenRow.toRowW (OpenLaw.row PySem.Challenge.rw_pg0139_01))) s) true s) = some (openGood vw []) := by
  intro w os
  kernel_rfl
local macro_rules | `(tactic| o_law) => `(tactic| refine holds_law row_well fun said => ?_)
local macro_rules | `(tactic| o_head $H) => `(tactic| apply holds_open (r := PySem.Challenge.rw_pg0139_01.row) (q := vw) (loose := []) (Xt := fun s => xlAt vw [] s && recOk (RowW.records (OpenRow.toRowW (OpenLaw.row PySem.Challenge.rw_pg0139_01))) s) (XP := XL vw []) (Yf := Hook.obs $H) (Ya := Hook.val $H) (YP := Hook.says $H) (N := 1980) (left_of (by kernel_rfl) (by kernel_rfl) (fun s => by kernel_rfl) run_seen (fun w os => by kernel_rfl)) (Hook.of $H) (Hook.keeps $H) (fun s e => xl_of s (Bool.and_eq_true_iff.mp e).1) XL.keeps (by rfl) (by rfl) (by rfl) (fun s e => recFacts_of (Bool.and_eq_true_iff.mp e).2) (by rfl) (by first | assumption | decide +kernel) (by decide +kernel) ⟨rfl, rfl, rfl, rfl, rfl, by decide +kernel⟩)
open_top hd for PySem.Challenge.rw_pg0139_01

theorem top_off : True := by
  w_top off
  exact True.intro
end

section
noncomputable def mx (r g b : Int) : Int := max (max r g) b
noncomputable def mn (r g b : Int) : Int := min (min r g) b
noncomputable def fd (a b : Int) : UInt64 := Float64.ofFrac (decide (a < 0) != decide (b < 0)) a.natAbs b.natAbs
noncomputable def fS (r g b : Int) : UInt64 := if mn r g b = mx r g b then 0 else fd (mx r g b - mn r g b) (mx r g b)
noncomputable def fX (r g b : Int) : UInt64 :=
  let M := mx r g b
  let R := mx r g b - mn r g b
  if r = M then Float64.sub (fd (M - b) R) (fd (M - g) R)
  else if g = M then Float64.sub (Float64.add 4611686018427387904 (fd (M - r) R)) (fd (M - b) R)
  else Float64.sub (Float64.add 4616189618054758400 (fd (M - g) R)) (fd (M - r) R)
noncomputable def fH (r g b : Int) : UInt64 := if mn r g b = mx r g b then 0 else (Float64.divmod (Float64.div (fX r g b) 4618441417868443648) 4607182418800017408).2
/-- the colour's spread and its place -/
noncomputable def nmA (r g b : Int) : Int := mx r g b - mn r g b
noncomputable def nmB (r g b : Int) : Int :=
  if mn r g b = mx r g b then 0
  else if r = mx r g b then Int.fmod (g - b) (nmA r g b)
  else if g = mx r g b then Int.fmod (b - r) (nmA r g b)
  else Int.fmod (r - g) (nmA r g b)
noncomputable def spreadX (r g b : Int) : UInt64 := Float64.add (Float64.mul (fS r g b) (Float64.ofInt (mx r g b))) 4602678819172646912
noncomputable def placeX (r g b : Int) : UInt64 := Float64.add (Float64.mul (Float64.ofInt (6 * nmA r g b)) (fH r g b)) 4602678819172646912
noncomputable def chk1 (r g b : Nat) : Bool := Float64.isFinite (spreadX r g b) && decide (Flt.toInt Float64.truncOf (spreadX r g b) = nmA r g b)
noncomputable def chk2 (r g b : Nat) : Bool := decide (nmA r g b = 0) || (Float64.isFinite (placeX r g b) && decide (Int.fmod (Flt.toInt Float64.truncOf (placeX r g b)) (nmA r g b) = nmB r g b))
theorem chk1_all : ∀ r : Fin 7, ∀ g : Fin 7, ∀ b : Fin 7, chk1 r.1 g.1 b.1 = true := by decide +kernel
theorem chk2_all : ∀ r : Fin 7, ∀ g : Fin 7, ∀ b : Fin 7, chk2 r.1 g.1 b.1 = true := by decide +kernel
end

section
noncomputable def nrm (a b : Int) : Int := a * a - a * b + b * b
noncomputable def tbA (a b m n : Int) : Int := a * m - a * n + b * n
noncomputable def tbB (a b m n : Int) : Int := b * m - a * n
noncomputable def rk (a b m n : Int) : Int := Int.fdiv (2 * tbA a b m n + nrm m n) (2 * nrm m n)
noncomputable def rj (a b m n : Int) : Int := Int.fdiv (2 * tbB a b m n + nrm m n) (2 * nrm m n)
noncomputable def ra (a b m n : Int) : Int := a - rk a b m n * m + rj a b m n * n
noncomputable def rb (a b m n : Int) : Int := b - rk a b m n * n - rj a b m n * m + rj a b m n * n
noncomputable def rg (a b m n : Int) : Int := min (min (ra a b m n) (rb a b m n)) 0
noncomputable def rsA (a b m n : Int) : Int := nmA (ra a b m n - rg a b m n) (rb a b m n - rg a b m n) (-(rg a b m n))
noncomputable def rsB (a b m n : Int) : Int := nmB (ra a b m n - rg a b m n) (rb a b m n - rg a b m n) (-(rg a b m n))
/-- a name other than nought -/
noncomputable abbrev Nm (a b : Int) : Prop := 0 ≤ b ∧ b < a ∧ a ≤ 6
noncomputable abbrev Seven (x : Int) : Prop := 0 ≤ x ∧ x < 7
noncomputable def chkR (a b m n : Nat) : Bool := !(decide (Nm a b) && decide (Nm m n)) ||
  (decide (Seven (ra a b m n - rg a b m n)) && decide (Seven (rb a b m n - rg a b m n)) && decide (Seven (-(rg a b m n))) &&
   (decide (rsA a b m n = 0 ∧ rsB a b m n = 0) || (decide (Nm (rsA a b m n) (rsB a b m n)) && decide (nrm (rsA a b m n) (rsB a b m n) < nrm m n))))
theorem chkR_all : ∀ a : Fin 7, ∀ b : Fin 7, ∀ m : Fin 7, ∀ n : Fin 7, chkR a.1 b.1 m.1 n.1 = true := by decide +kernel

theorem rest_all {a b m n : Int} (h1 : Nm a b) (h2 : Nm m n) :
    Seven (ra a b m n - rg a b m n) ∧ Seven (rb a b m n - rg a b m n) ∧ Seven (-(rg a b m n)) ∧ ((rsA a b m n = 0 ∧ rsB a b m n = 0) ∨ (Nm (rsA a b m n) (rsB a b m n) ∧ nrm (rsA a b m n) (rsB a b m n) < nrm m n)) := by
  have q := chkR_all ⟨a.toNat, by omega⟩ ⟨b.toNat, by omega⟩ ⟨m.toNat, by omega⟩ ⟨n.toNat, by omega⟩
  have ea : ((a.toNat : Nat) : Int) = a := by omega
  have eb : ((b.toNat : Nat) : Int) = b := by omega
  have em : ((m.toNat : Nat) : Int) = m := by omega
  have en : ((n.toNat : Nat) : Int) = n := by omega
  unfold chkR at q
  dsimp only at q
  rw [ea, eb, em, en] at q
  rw [decide_eq_true h1, decide_eq_true h2] at q
  simp only [Bool.and_self, Bool.not_true, Bool.false_or, Bool.and_eq_true, Bool.or_eq_true, decide_eq_true_eq] at q
  exact ⟨q.1.1.1, q.1.1.2, q.1.2, q.2⟩
noncomputable def chkN (a b : Nat) : Bool := !(decide (Nm a b)) || decide (1 ≤ nrm a b ∧ nrm a b ≤ 36)
theorem chkN_all : ∀ a : Fin 7, ∀ b : Fin 7, chkN a.1 b.1 = true := by decide +kernel
theorem nrm_pos {a b : Int} (h : Nm a b) : 1 ≤ nrm a b ∧ nrm a b ≤ 36 := by
  have q := chkN_all ⟨a.toNat, by omega⟩ ⟨b.toNat, by omega⟩
  have ea : ((a.toNat : Nat) : Int) = a := by omega
  have eb : ((b.toNat : Nat) : Int) = b := by omega
  unfold chkN at q
  dsimp only at q
  rw [ea, eb, decide_eq_true h] at q
  simpa using q
end

section
open PySem
noncomputable def dg (a : Int) : Nat := (48 + a).toNat
noncomputable def W3 (a b c : Int) : Str := ⟨#[dg a, dg b, dg c]⟩
end

section
/-- the room that a call leaves for others: depth, units -/
noncomputable def Rm (dp c : Nat) : Prop := dp + c < recursionLimit
noncomputable def Un (un c : Nat) : Prop := un + 8 * c + 8 < cLine
theorem Un.call {un c c' : Nat} (h : Un un c) (e : Nat.blt c' c = true) : Un (un + 3) c' := by
  have := Nat.blt_eq.mp e
  unfold Un at *
  omega
theorem Un.n {un c n : Nat} (h : Un un c) (e : Nat.ble n (8 * c + 5) = true) : un + 3 + n < cLine := by
  have := Nat.le_of_ble_eq_true e
  unfold Un at h
  omega
theorem Un.lit {un c : Nat} (e : Nat.blt (un + 8 * c + 8) 9900 = true) : Un un c := Nat.blt_eq.mp e
theorem Un.mono {un c c' : Nat} (h : Un un c) (e : c' ≤ c) : Un un c' := by
  unfold Un at *
  omega
theorem Un.one {un : Nat} (h : Un un 4) : Un (un + 1) 3 := by
  unfold Un at *
  omega
theorem Rm.call {dp c c' : Nat} (h : Rm dp c) (e : Nat.blt c' c = true) : Rm (dp + 1) c' := by
  have := Nat.blt_eq.mp e
  unfold Rm at *
  omega
theorem Rm.z {dp c : Nat} (h : Rm dp c) : dp < recursionLimit := Nat.lt_of_le_of_lt (Nat.le_add_right _ _) h
theorem Rm.lit {dp c : Nat} (e : Nat.blt (dp + c) recursionLimit = true) : Rm dp c := Nat.blt_eq.mp e
theorem Rm.mono {dp c c' : Nat} (h : Rm dp c) (e : c' ≤ c) : Rm dp c' := by
  unfold Rm at *
  omega
theorem acut {M : Model} {α : Type} {A : Around} {t : Sem α} {Q : α → Shared → Prop} {E : Value → Shared → Prop} {s : Shared} (h : let A' : Around := A; wpAny M A' t Q E s) : wpAny M A t Q E s := h
section
variable {prog : Program} {w : World} {A : Around} {E : Value → Shared → Prop} {Q : Flow → Shared → Prop} {s : Shared} {env : Env} {h₀ : Heap} {L : Addr}
theorem execs_cut {st : Stmt} {ss : List Stmt}
   (h : let q : Flow → Shared → Prop := fun f s' => match f with | .next => wpAny (model prog w) A (execs ss env) Q E s' | f => Q f s'; let s1 : Shared := s; wpAny (model prog w) A (exec st env) q E s1) : wpAny (model prog w) A (execs (st :: ss) env) Q E s := wpAny_execs_cons h
theorem While_inv2L {test : Expr} {body : List Stmt} {pos : Pos} {m : Str → Option Value} {news : List (Addr × Obj)} (J : Nat → (Str → Option Value) → List (Addr × Obj) → Prop) {n₀ : Nat}
    (F : Fr h₀ L s.heap m) (N : News h₀ L s.heap news) (hJ : J n₀ m news)
    (turn : ∀ n m₁ news₁ h₁ tk₁, Fr h₀ L h₁ m₁ → News h₀ L h₁ news₁ → J n m₁ news₁ → let W : Flow → Shared → Prop := WhileStep2 h₀ L s J Q n
      wpAny (model prog w) A (isTrue test env (eval test env)) (fun b s₂ =>
        if b = true then wpAny (model prog w) A (execs body env) W E s₂ else Q .next s₂) E { s with heap := h₁, toks := tk₁ })
    (hE : PassesOwn (model prog w) A env E := by passes_own) :
    wpAny (model prog w) A (exec (.While test body [] pos) env) Q E s :=
  While_inv2 J F N hJ (fun n m₁ news₁ h₁ tk₁ F₁ N₁ J₁ => turn n m₁ news₁ h₁ tk₁ F₁ N₁ J₁) hE
end
section
variable {M : Model} {A : Around} {E : Value → Shared → Prop} {s : Shared} {h₀ : Heap} {L a : Addr} {m : Str → Option Value} {cn : Str} {cs : Scope} {ccd : Value} {cl : List (Str × Addr)} {x : Str} {v : Value} {news : List (Addr × Obj)} {Q : Unit → Shared → Prop}
theorem storeX_M (F : Fr h₀ L s.heap m) (N : News h₀ L s.heap news)
    (h : ∀ h', let m' : Str → Option Value := fun y => if y = x then some v else m y; Fr h₀ L h' m' → News h₀ L h' news → Q () { s with heap := h', toks := s.toks + 1 })
    (hk : cs.kind = .function := by rfl) (hx : (envX cn cs L a ccd cl).kindOf x = some .local := by rfl) : wpAny M A (storeName (envX cn cs L a ccd cl) x v) Q E s :=
  storeX_L F N (fun h' F' N' => h h' F' N') hk hx
end
end

section
/-- a call's contract -/
noncomputable def Con (w : World) (mean : ExcName → Option Value) (mg mb : Str → Option Value) (f : Addr) (news : List (Addr × Obj)) (vs : List Value) (cost : Nat)
   (Ret : List (Addr × Obj) → Value → Prop) : Prop :=
  ∀ (pr : Program) (ls : List Str) (dp un : Nat) (gd : Option (List Code)) (cn : Str) (cs : Scope) (a : Addr) (ccd : Value) (cl : List (Str × Addr)) (outer : List Env) (A₀ : Around) (base h₀ : Heap) (L : Addr) (m : Str → Option Value) (s : Shared) (Q E : Value → Shared → Prop),
    Below A₀ base outer h₀ → Fr h₀ L s.heap m → (hd.heap_1 w.params).In h₀ → News h₀ L s.heap news → Top pr ls mean mg mb h₀ → cs.kind = .function →
    Rm dp cost → Un un cost →
    (∀ (v : Value) (news' : List (Addr × Obj)) (h' : Heap) (tk' : Nat), Fr h₀ L h' m → News h₀ L h' news' → Ret news' v → Q v { s with heap := h', toks := tk' }) →
      wpAny (model PySem.Challenge.rw_pg0139_01.row.prog w) (ktrTop dp un gd cn cs L a ccd cl outer) (call (.ref f) vs) Q E s
end

section
section
variable {prog : Program} {w : World} {A : Around} {E : Value → Shared → Prop} {s : Shared} {h₀ : Heap} {L : Addr} {m : Str → Option Value} {news : List (Addr × Obj)}
theorem max3_N {a b c : Int} {t u x : Tok} {Q : Value → Shared → Prop} (hh : A.handled = none) (F : Fr h₀ L s.heap m) (N : News h₀ L s.heap news)
    (h : ∀ h' tk tt, Fr h₀ L h' m → News h₀ L h' news → Q (.int (max (max a b) c) tt) { s with heap := h', toks := tk }) :
    wpAny (model prog w) A (call (.builtin "max") [.int a t, .int b u, .int c x]) Q E s :=
  max_three_ints hh fun h' tk hk => by
    have q := fun tt => h h' tk tt (F.grownK hk) (N.grown hk)
    by_cases c1 : b > a
    · rw [if_pos c1]
      by_cases c2 : c > b
      · rw [if_pos c2]; have e : max (max a b) c = c := (congrArg (fun z => max z c) (Int.max_eq_right (Int.le_of_lt c1))).trans (Int.max_eq_right (Int.le_of_lt c2))
        rw [e] at q; exact q _
      · rw [if_neg c2]; have e : max (max a b) c = b := (congrArg (fun z => max z c) (Int.max_eq_right (Int.le_of_lt c1))).trans (Int.max_eq_left (Int.not_lt.mp c2))
        rw [e] at q; exact q _
    · rw [if_neg c1]
      by_cases c2 : c > a
      · rw [if_pos c2]; have e : max (max a b) c = c := (congrArg (fun z => max z c) (Int.max_eq_left (Int.not_lt.mp c1))).trans (Int.max_eq_right (Int.le_of_lt c2))
        rw [e] at q; exact q _
      · rw [if_neg c2]; have e : max (max a b) c = a := (congrArg (fun z => max z c) (Int.max_eq_left (Int.not_lt.mp c1))).trans (Int.max_eq_left (Int.not_lt.mp c2))
        rw [e] at q; exact q _
theorem min3_N {a b c : Int} {t u x : Tok} {Q : Value → Shared → Prop} (hh : A.handled = none) (F : Fr h₀ L s.heap m) (N : News h₀ L s.heap news)
    (h : ∀ h' tk tt, Fr h₀ L h' m → News h₀ L h' news → Q (.int (min (min a b) c) tt) { s with heap := h', toks := tk }) :
    wpAny (model prog w) A (call (.builtin "min") [.int a t, .int b u, .int c x]) Q E s :=
  min_three_ints hh fun h' tk hk => by
    have q := fun tt => h h' tk tt (F.grownK hk) (N.grown hk)
    by_cases c1 : b < a
    · rw [if_pos c1]
      by_cases c2 : c < b
      · rw [if_pos c2]; have e : min (min a b) c = c := (congrArg (fun z => min z c) (Int.min_eq_right (Int.le_of_lt c1))).trans (Int.min_eq_right (Int.le_of_lt c2))
        rw [e] at q; exact q _
      · rw [if_neg c2]; have e : min (min a b) c = b := (congrArg (fun z => min z c) (Int.min_eq_right (Int.le_of_lt c1))).trans (Int.min_eq_left (Int.not_lt.mp c2))
        rw [e] at q; exact q _
    · rw [if_neg c1]
      by_cases c2 : c < a
      · rw [if_pos c2]; have e : min (min a b) c = c := (congrArg (fun z => min z c) (Int.min_eq_left (Int.not_lt.mp c1))).trans (Int.min_eq_right (Int.le_of_lt c2))
        rw [e] at q; exact q _
      · rw [if_neg c2]; have e : min (min a b) c = a := (congrArg (fun z => min z c) (Int.min_eq_left (Int.not_lt.mp c1))).trans (Int.min_eq_left (Int.not_lt.mp c2))
        rw [e] at q; exact q _
end
end

section
theorem lt_big : 1000 < 2 ^ 1023 := Nat.lt_of_lt_of_le (show 1000 < 2 ^ 10 by decide) (Nat.pow_le_pow_right (by decide) (by decide))
theorem fin_nan {x : UInt64} (h : Float64.isFinite x = true) : ¬ Float64.isNaN x = true := by
  intro e
  unfold Float64.isFinite at h
  unfold Float64.isNaN at e
  cases q : Float64.decode x <;> simp [q] at h e
theorem fin_inf {x : UInt64} (h : Float64.isFinite x = true) : ¬ Float64.isInf x = true := by
  intro e
  unfold Float64.isFinite at h
  unfold Float64.isInf at e
  cases q : Float64.decode x <;> simp [q] at h e
section
variable {prog : Program} {w : World} {A : Around} {E : Value → Shared → Prop} {s : Shared} {h₀ : Heap} {L : Addr} {m : Str → Option Value} {news : List (Addr × Obj)} {Q : Value → Shared → Prop} {t u : Tok}
theorem div_safe {a b : Int} (hA : A.handled = none) (hb : b ≠ 0) (ha : a.natAbs ≤ 1000)
    (h : Q (.float (fd a b) s.toks) { s with toks := s.toks + 1 }) : wpAny (model prog w) A (binaryOp .Div (.int a t) (.int b u)) Q E s :=
  PySem.Flt.div_ii_fits hA (Nat.lt_of_le_of_lt ha lt_big) (fun e => absurd e hb) (fun _ _ => h)
theorem fdiv_safe {a b : UInt64} (hA : A.handled = none) (hb : ¬ Float64.isZero b = true)
    (h : Q (.float (Float64.div a b) s.toks) { s with toks := s.toks + 1 }) : wpAny (model prog w) A (binaryOp .Div (.float a t) (.float b u)) Q E s :=
  truediv_float_or hA (fun e => absurd e hb) (fun _ => h)
theorem fmod_safe {a b : UInt64} (hA : A.handled = none) (hb : ¬ Float64.isZero b = true)
    (h : Q (.float (Float64.divmod a b).2 s.toks) { s with toks := s.toks + 1 }) : wpAny (model prog w) A (binaryOp .Mod (.float a t) (.float b u)) Q E s :=
  PySem.Flt.mod_ff hA (fun e => absurd e hb) (fun _ => h)
theorem mulfi_safe {a : UInt64} {n : Int} (hn : n.natAbs ≤ 1000) (h : Q (.float (Float64.mul a (Float64.ofInt n)) s.toks) { s with toks := s.toks + 1 }) :
    wpAny (model prog w) A (binaryOp .Mult (.float a t) (.int n u)) Q E s := mul_fi_fits (Nat.lt_of_le_of_lt hn lt_big) h
theorem mulif_safe {a : UInt64} {n : Int} (hn : n.natAbs ≤ 1000) (h : Q (.float (Float64.mul (Float64.ofInt n) a) s.toks) { s with toks := s.toks + 1 }) :
    wpAny (model prog w) A (binaryOp .Mult (.int n u) (.float a t)) Q E s := mul_if_fits (Nat.lt_of_le_of_lt hn lt_big) h
theorem intf_safe {x : UInt64} {n : Int} (hA : A.handled = none) (hf : Float64.isFinite x = true ∧ Flt.toInt Float64.truncOf x = n)
    (h : Q (.int n s.toks) { s with toks := s.toks + 1 }) : wpAny (model prog w) A (call (.type "int") [.float x t]) Q E s :=
  PySem.Flt.call_int_float3 hA (fun e => absurd e (fin_nan hf.1)) (fun e => absurd e (fin_inf hf.1)) (fun _ => hf.2 ▸ h)
end
theorem chk_ints {P : Nat → Nat → Nat → Bool} (H : ∀ r : Fin 7, ∀ g : Fin 7, ∀ b : Fin 7, P r.1 g.1 b.1 = true) {r g b : Int} (hr : 0 ≤ r ∧ r < 7) (hg : 0 ≤ g ∧ g < 7) (hb : 0 ≤ b ∧ b < 7) :
    ∃ r' g' b' : Nat, r = r' ∧ g = g' ∧ b = b' ∧ P r' g' b' = true :=
  ⟨r.toNat, g.toNat, b.toNat, by omega, by omega, by omega, H ⟨r.toNat, by omega⟩ ⟨g.toNat, by omega⟩ ⟨b.toNat, by omega⟩⟩
theorem spread_is {r g b : Int} (hr : 0 ≤ r ∧ r < 7) (hg : 0 ≤ g ∧ g < 7) (hb : 0 ≤ b ∧ b < 7) :
    Float64.isFinite (spreadX r g b) = true ∧ Flt.toInt Float64.truncOf (spreadX r g b) = nmA r g b := by
  obtain ⟨r', g', b', rfl, rfl, rfl, h⟩ := chk_ints chk1_all hr hg hb
  unfold chk1 at h
  rw [Bool.and_eq_true] at h
  exact ⟨h.1, of_decide_eq_true h.2⟩
theorem place_is {r g b : Int} (hr : 0 ≤ r ∧ r < 7) (hg : 0 ≤ g ∧ g < 7) (hb : 0 ≤ b ∧ b < 7) (hn : nmA r g b ≠ 0) :
    ∃ n, (Float64.isFinite (placeX r g b) = true ∧ Flt.toInt Float64.truncOf (placeX r g b) = n) ∧ Int.fmod n (nmA r g b) = nmB r g b := by
  obtain ⟨r', g', b', rfl, rfl, rfl, h⟩ := chk_ints chk2_all hr hg hb
  unfold chk2 at h
  rw [Bool.or_eq_true, Bool.and_eq_true] at h
  rcases h with h | h
  · exact absurd (of_decide_eq_true h) hn
  · exact ⟨_, ⟨h.1, rfl⟩, of_decide_eq_true h.2⟩

theorem led_ffi {h₀ h : Heap} {L D : Addr} {news : List (Addr × Obj)} {x x' y y' : UInt64} {z z' : Int} {t1 t2 t3 : Tok} (N : News h₀ L h ((D, { cls := .type "tuple", data := .seq #[.float x t1, .float y t2, .int z t3] }) :: news))
    (ex : x = x') (ey : y = y') (ez : z = z') : News h₀ L h ((D, { cls := .type "tuple", data := .seq #[.float x' t1, .float y' t2, .int z' t3] }) :: news) := by
  subst ex ey ez; exact N
theorem led_ii {h₀ h : Heap} {L D : Addr} {news : List (Addr × Obj)} {x x' z z' : Int} {t1 t2 : Tok} (N : News h₀ L h ((D, { cls := .type "tuple", data := .seq #[.int x t1, .int z t2] }) :: news))
    (ex : x = x') (ez : z = z') : News h₀ L h ((D, { cls := .type "tuple", data := .seq #[.int x' t1, .int z' t2] }) :: news) := by
  subst ex ez; exact N

theorem mx_le {r g b : Int} (hr : 0 ≤ r ∧ r < 7) (hg : 0 ≤ g ∧ g < 7) (hb : 0 ≤ b ∧ b < 7) : 0 ≤ mx r g b ∧ mx r g b < 7 := by unfold mx; omega
theorem nmA_le {r g b : Int} (hr : 0 ≤ r ∧ r < 7) (hg : 0 ≤ g ∧ g < 7) (hb : 0 ≤ b ∧ b < 7) : 0 ≤ nmA r g b ∧ nmA r g b < 7 := by unfold nmA mx mn; omega
noncomputable def placeN (r g b : Int) : Int := Flt.toInt Float64.truncOf (placeX r g b)
theorem place_fin {r g b : Int} (hr : 0 ≤ r ∧ r < 7) (hg : 0 ≤ g ∧ g < 7) (hb : 0 ≤ b ∧ b < 7) (hn : nmA r g b ≠ 0) :
    Float64.isFinite (placeX r g b) = true ∧ Flt.toInt Float64.truncOf (placeX r g b) = placeN r g b := by
  obtain ⟨n, h, _⟩ := place_is hr hg hb hn
  exact ⟨h.1, rfl⟩
theorem place_mod {r g b : Int} (hr : 0 ≤ r ∧ r < 7) (hg : 0 ≤ g ∧ g < 7) (hb : 0 ≤ b ∧ b < 7) (hn : nmA r g b ≠ 0) : Int.fmod (placeN r g b) (nmA r g b) = nmB r g b := by
  obtain ⟨n, h, e⟩ := place_is hr hg hb hn
  unfold placeN
  rw [h.2]; exact e
theorem nmB_gray {r g b : Int} (h : nmA r g b = 0) : nmB r g b = 0 := by
  unfold nmA at h
  unfold nmB
  rw [if_pos (by omega)]

theorem drop2 {h₀ h : Heap} {L : Addr} {p q : Addr × Obj} {news : List (Addr × Obj)} (N : News h₀ L h (p :: q :: news)) : News h₀ L h (p :: news) :=
  fun x hx => N x (by rcases List.mem_cons.mp hx with h | h; exact h ▸ .head _; exact .tail _ (.tail _ h))
theorem drop1 {h₀ h : Heap} {L : Addr} {p : Addr × Obj} {news : List (Addr × Obj)} (N : News h₀ L h (p :: news)) : News h₀ L h news := fun x hx => N x (.tail _ hx)
end

local macro_rules | `(tactic| k_room) => `(tactic| ktr_room)
local macro_rules | `(tactic| k_units) => `(tactic| ktr_units)
local macro_rules | `(tactic| k_mem) => `(tactic| assumption)
local macro_rules | `(tactic| k_in) => `(tactic| first | (with_reducible assumption) | exact Frag.In.keeps (by k_asm) (Fr.keep (by k_asm)))
local macro_rules | `(tactic| ktr_room) => `(tactic| first | exact Rm.call (by assumption) (by exact rfl) | exact Rm.z (by assumption) | exact Rm.lit (by exact rfl))
local macro_rules | `(tactic| ktr_units) => `(tactic| first | exact Un.call (by assumption) (by exact rfl) | exact Un.n (by assumption) (by exact rfl) | exact Un.lit (by exact rfl))
local macro_rules | `(tactic| units_room) => `(tactic| ktr_units)

section
local macro_rules | `(tactic| walk_at "mine pad") => `(tactic| skip)
theorem mx9 {r g b : Int} (hr : 0 ≤ r ∧ r < 7) (hg : 0 ≤ g ∧ g < 7) (hb : 0 ≤ b ∧ b < 7) : 0 ≤ max (max r g) b ∧ max (max r g) b < 7 :=
  ⟨Int.le_trans hb.1 (Int.le_max_right _ _), Int.max_lt.mpr ⟨Int.max_lt.mpr ⟨hr.2, hg.2⟩, hb.2⟩⟩
theorem mn9 {r g b : Int} (hr : 0 ≤ r ∧ r < 7) (hg : 0 ≤ g ∧ g < 7) (hb : 0 ≤ b ∧ b < 7) : 0 ≤ min (min r g) b ∧ min (min r g) b < 7 :=
  ⟨Int.le_min.mpr ⟨Int.le_min.mpr ⟨hr.1, hg.1⟩, hb.1⟩, Int.lt_of_le_of_lt (Int.min_le_right _ _) hb.2⟩
theorem mm9 {r g b : Int} : min (min r g) b ≤ max (max r g) b := Int.le_trans (Int.min_le_right _ _) (Int.le_max_right _ _)
theorem nA9 {x y : Int} (hx : 0 ≤ x ∧ x < 7) (hy : 0 ≤ y ∧ y < 7) : (x - y).natAbs ≤ 1000 := by omega
theorem nZ9 {x : Int} (hx : 0 ≤ x ∧ x < 7) : x.natAbs ≤ 1000 := by omega
theorem sub9 {x y : Int} (h : ¬ x = y) : ¬ y - x = 0 := fun e => h (Int.sub_eq_zero.mp e).symm
theorem ne9 {m M : Int} (h : ¬ m = M) (hm : 0 ≤ m ∧ m < 7) (hM : m ≤ M) : ¬ M = 0 := fun e => h (Int.le_antisymm hM (e ▸ hm.1))
theorem hsv_con (w : World) (mean : ExcName → Option Value) (mg mb : Str → Option Value) (r g b : Int) (tr tg tb : Tok) (news : List (Addr × Obj))
   (hr : 0 ≤ r ∧ r < 7) (hg : 0 ≤ g ∧ g < 7) (hb : 0 ≤ b ∧ b < 7) :
   Con w mean mg mb 21 news [.int r tr, .int g tg, .int b tb] 1
     (fun news' v => ∃ D t1 t2 t3, v = .ref D ∧ (∀ p ∈ news, p.1 < D) ∧ news' = (D, { cls := .type "tuple", data := .seq #[.float (fH r g b) t1, .float (fS r g b) t2, .int (mx r g b) t3] }) :: news) := by
  unfold Con; k_fill
  intro pr ls dp un gd cn cs a ccd cl outer A₀ base h₀ L m s Q E B F X N T hk hd hu hret
  ((refine wpAny_call ?_; k_dflt ktr_enter; refine acut ?_; intro _))
  (repeat' (first | (k_unfold; (try dsimp only)) | (k_end; wrow_close) | ((with_reducible show wpAny _ _ (execs (_ :: _) _) _ _ _); with_reducible ((refine execs_cut ?_; intro _ _))) | ((with_reducible show wpAny _ _ (callWith _ (Value.ref _) _ _ _) _ _ _); with_reducible ((k_here; k_dflt (first | (refine' callWith_K ?k1 ?k2 ?_; (case k1 => k_asm); (case k2 => k_is); k_whole) | (refine' callWith_K0 ?k1 ?k2 ?_; (case k1 => k_in); (case k2 => k_is); k_whole))))) | ((with_reducible show wpAny _ _ (binaryOp .Mult (Value.int _ _) (Value.float _ _)) _ _ _); with_reducible ((k_here; k_dflt (refine' mulif_safe ?k1 ?_; (case k1 => omega); k_whole)))) | ((with_reducible show wpAny _ _ (binaryOp .Mult (Value.float _ _) (Value.int _ _)) _ _ _); with_reducible ((k_here; k_dflt (refine' mulfi_safe ?k1 ?_; (case k1 => omega); k_whole)))) | ((with_reducible show wpAny _ _ (binaryOp .Mod (Value.float _ _) (Value.float _ _)) _ _ _); with_reducible ((k_here; k_dflt (refine' fmod_safe ?k1 ?k2 ?_; (case k1 => with_unfolding_all rfl); (case k2 => decide +kernel); k_whole)))) | ((with_reducible show wpAny _ _ (binaryOp .Div (Value.float _ _) (Value.float _ _)) _ _ _); with_reducible ((k_here; k_dflt (refine' fdiv_safe ?k1 ?k2 ?_; (case k1 => with_unfolding_all rfl); (case k2 => decide +kernel); k_whole)))) | ((with_reducible show wpAny _ _ (binaryOp .Div (Value.int _ _) (Value.int _ _)) _ _ _); with_reducible ((k_here; k_dflt (refine' div_safe ?k1 ?k2 ?k3 ?_; (case k1 => with_unfolding_all rfl); (case k2 => first | exact nA9 (by (first | exact mx9 hr hg hb | exact mn9 hr hg hb | assumption)) (by (first | exact mx9 hr hg hb | exact mn9 hr hg hb | assumption)) | exact nZ9 (by (first | exact mx9 hr hg hb | exact mn9 hr hg hb | assumption)) | exact sub9 (by assumption) | exact ne9 (by assumption) (mn9 hr hg hb) mm9 | omega); (case k3 => first | exact nA9 (by (first | exact mx9 hr hg hb | exact mn9 hr hg hb | assumption)) (by (first | exact mx9 hr hg hb | exact mn9 hr hg hb | assumption)) | exact nZ9 (by (first | exact mx9 hr hg hb | exact mn9 hr hg hb | assumption)) | exact sub9 (by assumption) | exact ne9 (by assumption) (mn9 hr hg hb) mm9 | omega); k_whole)))) | ((with_reducible show wpAny _ _ (call (Value.builtin "min") _) _ _ _); with_reducible ((k_here; (with_reducible show wpAny _ _ (call (Value.builtin _) [Value.int _ _, Value.int _ _, Value.int _ _]) _ _ _); k_dflt (refine' min3_N ?k1 ?k2 ?k3 ?_; (case k1 => with_unfolding_all rfl); (case k2 => k_asm); (case k3 => k_asm); k_whole); intro h' tk' tt' F' N'; (try k_sweep)))) | ((with_reducible show wpAny _ _ (call (Value.builtin "max") _) _ _ _); with_reducible ((k_here; (with_reducible show wpAny _ _ (call (Value.builtin _) [Value.int _ _, Value.int _ _, Value.int _ _]) _ _ _); k_dflt (refine' max3_N ?k1 ?k2 ?k3 ?_; (case k1 => with_unfolding_all rfl); (case k2 => k_asm); (case k3 => k_asm); k_whole); intro h' tk' tt' F' N'; (try k_sweep)))) | walk1 | dsimp only | (leave1; walk_say "STEP leave1"; try dsimp only)))
  all_goals (
    refine hret _ _ _ _ (by k_asm) (led_ffi (by k_asm) ?_ ?_ ?_) ⟨_, _, _, _, rfl, by assumption, rfl⟩
    all_goals (
      (try unfold fH); (try unfold fS); (try unfold fX); (try unfold mx); (try unfold mn)
      all_goals ((try dsimp only) <;> (repeat' split) <;> first | rfl | (exfalso; first | contradiction | exact absurd (Eq.symm (by assumption)) (by assumption) | omega))))
end

section
theorem name_con (w : World) (mean : ExcName → Option Value) (mg mb : Str → Option Value) (r g b : Int) (tr tg tb : Tok) (news : List (Addr × Obj))
   (hr : 0 ≤ r ∧ r < 7) (hg : 0 ≤ g ∧ g < 7) (hb : 0 ≤ b ∧ b < 7) :
   Con w mean mg mb 124 news [.int r tr, .int g tg, .int b tb] 2
     (fun news' v => ∃ D t1 t2, v = .ref D ∧ (∀ p ∈ news, p.1 < D) ∧ news' = (D, { cls := .type "tuple", data := .seq #[.int (nmA r g b) t1, .int (nmB r g b) t2] }) :: news) := by
  unfold Con; k_fill
  intro pr ls dp un gd cn cs a ccd cl outer A₀ base h₀ L m s Q E B F X N T hk hd hu hret
  have hmx := mx_le hr hg hb
  have hnm := nmA_le hr hg hb
  ((refine wpAny_call ?_; k_dflt ktr_enter; refine acut ?_; intro _))
  (repeat' (first | (k_unfold; (try dsimp only)) | (k_end; wrow_close) | ((with_reducible show wpAny _ _ (call (Value.type "int") _) _ _ _); with_reducible ((k_here; (with_reducible show wpAny _ _ (call _ [Value.float _ _]) _ _ _); k_dflt (refine' intf_safe ?k1 ?k2 ?_; (case k1 => with_unfolding_all rfl); (case k2 => first | exact spread_is (by assumption) (by assumption) (by assumption) | exact place_fin (by assumption) (by assumption) (by assumption) (by assumption)); k_whole)))) | (with_reducible ((k_here; (with_reducible show wpAny _ _ (call (Value.ref 21) _) _ _ _); k_dflt (refine' (hsv_con _ _ _ _ _ _ _ _ _ _ _ ?ka ?kb ?kc) _ _ _ _ _ _ _ _ _ _ _ _ _ _ _ _ _ _ _ ?k1 ?k2 ?k3 ?k4 ?k5 ?kK ?kd ?ku ?_; (case ka => omega); (case kb => omega); (case kc => omega); (((case k1 => first | k_asm | ktn_no "the frames below"); (case k2 => first | k_asm | ktn_no "the frame"); (case k3 => first | k_asm | ktn_no "the written part"); (case k4 => first | k_asm | ktn_no "the ledger"); (case k5 => first | k_asm | ktn_no "the top"); (case kK => first | exact rfl | assumption | ktn_no "no def"); (case kd => first | ktr_room | ktn_no "the room"); (case ku => first | ktr_units | ktn_no "the units")))); intro v' news' h' tk' F' N' hr'; obtain ⟨D', t1', t2', t3', hv', l1, hn'⟩ := hr'; subst hv'; subst hn'; (try k_lt l1); (try k_sweep)))) | ((with_reducible show wpAny _ _ (execs (_ :: _) _) _ _ _); with_reducible ((refine execs_cut ?_; intro _ _))) | ((with_reducible show wpAny _ _ (callWith _ (Value.ref _) _ _ _) _ _ _); with_reducible ((k_here; k_dflt (first | (refine' callWith_K ?k1 ?k2 ?_; (case k1 => k_asm); (case k2 => k_is); k_whole) | (refine' callWith_K0 ?k1 ?k2 ?_; (case k1 => k_in); (case k2 => k_is); k_whole))))) | ((with_reducible show wpAny _ _ (binaryOp .Mult (Value.int _ _) (Value.float _ _)) _ _ _); with_reducible ((k_here; k_dflt (refine' mulif_safe ?k1 ?_; (case k1 => omega); k_whole)))) | ((with_reducible show wpAny _ _ (binaryOp .Mult (Value.float _ _) (Value.int _ _)) _ _ _); with_reducible ((k_here; k_dflt (refine' mulfi_safe ?k1 ?_; (case k1 => omega); k_whole)))) | ((with_reducible show wpAny _ _ (binaryOp .Mod (Value.float _ _) (Value.float _ _)) _ _ _); with_reducible ((k_here; k_dflt (refine' fmod_safe ?k1 ?k2 ?_; (case k1 => with_unfolding_all rfl); (case k2 => decide +kernel); k_whole)))) | ((with_reducible show wpAny _ _ (binaryOp .Div (Value.float _ _) (Value.float _ _)) _ _ _); with_reducible ((k_here; k_dflt (refine' fdiv_safe ?k1 ?k2 ?_; (case k1 => with_unfolding_all rfl); (case k2 => decide +kernel); k_whole)))) | ((with_reducible show wpAny _ _ (binaryOp .Div (Value.int _ _) (Value.int _ _)) _ _ _); with_reducible ((k_here; k_dflt (refine' div_safe ?k1 ?k2 ?k3 ?_; (case k1 => with_unfolding_all rfl); (case k2 => omega); (case k3 => omega); k_whole)))) | ((with_reducible show wpAny _ _ (call (Value.builtin "min") _) _ _ _); with_reducible ((k_here; (with_reducible show wpAny _ _ (call (Value.builtin _) [Value.int _ _, Value.int _ _, Value.int _ _]) _ _ _); k_dflt (refine' min3_N ?k1 ?k2 ?k3 ?_; (case k1 => with_unfolding_all rfl); (case k2 => k_asm); (case k3 => k_asm); k_whole); intro h' tk' tt' F' N'; (try k_sweep)))) | ((with_reducible show wpAny _ _ (call (Value.builtin "max") _) _ _ _); with_reducible ((k_here; (with_reducible show wpAny _ _ (call (Value.builtin _) [Value.int _ _, Value.int _ _, Value.int _ _]) _ _ _); k_dflt (refine' max3_N ?k1 ?k2 ?k3 ?_; (case k1 => with_unfolding_all rfl); (case k2 => k_asm); (case k3 => k_asm); k_whole); intro h' tk' tt' F' N'; (try k_sweep)))) | walk1 | dsimp only | (leave1; walk_say "STEP leave1"; try dsimp only)))
  · refine hret _ _ _ _ (by k_asm) (led_ii (drop2 (by k_asm)) ?_ ?_) ⟨_, _, _, rfl, by (first | assumption | exact ktn_ltOf (by assumption) | exact ktn_ltOf (And.right (by assumption)) | exact ktn_ltOf (And.right (And.right (by assumption))) | exact ktn_ltOf (And.right (And.right (And.right (by assumption))))), rfl⟩
    · exact Eq.symm (by assumption)
    · exact (nmB_gray (by assumption)).symm
  · refine hret _ _ _ _ (by k_asm) (led_ii (drop2 (by k_asm)) ?_ ?_) ⟨_, _, _, rfl, by (first | assumption | exact ktn_ltOf (by assumption) | exact ktn_ltOf (And.right (by assumption)) | exact ktn_ltOf (And.right (And.right (by assumption))) | exact ktn_ltOf (And.right (And.right (And.right (by assumption))))), rfl⟩
    · rfl
    · exact place_mod hr hg hb (by assumption)
end

section
local macro_rules | `(tactic| walk_at "mine pad") => `(tactic| skip)
theorem norm_con (w : World) (mean : ExcName → Option Value) (mg mb : Str → Option Value) (x : Addr) (i j : Int) (ti tj : Tok) (n : Nat) (news : List (Addr × Obj))
   (hx : (x, { cls := .type "tuple", data := .seq #[.int i ti, .int j tj] n }) ∈ news)
   (hi : -100 < i ∧ i < 100) (hj : -100 < j ∧ j < 100) :
   Con w mean mg mb 138 news [.ref x] 1 (fun news' v => news' = news ∧ ∃ t, v = .int (nrm i j) t) := by
  unfold Con; k_fill
  intro pr ls dp un gd cn cs a ccd cl outer A₀ base h₀ L m s Q E B F X N T hk hd hu hret
  ((refine wpAny_call ?_; k_dflt ktr_enter; refine acut ?_; intro _))
  (repeat' (first | (k_unfold; (try dsimp only)) | (k_end; wrow_close) | ((with_reducible show wpAny _ _ (execs (_ :: _) _) _ _ _); with_reducible ((refine execs_cut ?_; intro _ _))) | ((with_reducible show wpAny _ _ (callWith _ (Value.ref _) _ _ _) _ _ _); with_reducible ((k_here; k_dflt (first | (refine' callWith_K ?k1 ?k2 ?_; (case k1 => k_asm); (case k2 => k_is); k_whole) | (refine' callWith_K0 ?k1 ?k2 ?_; (case k1 => k_in); (case k2 => k_is); k_whole))))) | ((with_reducible show wpAny _ _ (binaryOp .Mult (Value.int _ _) (Value.float _ _)) _ _ _); with_reducible ((k_here; k_dflt (refine' mulif_safe ?k1 ?_; (case k1 => omega); k_whole)))) | ((with_reducible show wpAny _ _ (binaryOp .Mult (Value.float _ _) (Value.int _ _)) _ _ _); with_reducible ((k_here; k_dflt (refine' mulfi_safe ?k1 ?_; (case k1 => omega); k_whole)))) | ((with_reducible show wpAny _ _ (binaryOp .Mod (Value.float _ _) (Value.float _ _)) _ _ _); with_reducible ((k_here; k_dflt (refine' fmod_safe ?k1 ?k2 ?_; (case k1 => with_unfolding_all rfl); (case k2 => decide +kernel); k_whole)))) | ((with_reducible show wpAny _ _ (binaryOp .Div (Value.float _ _) (Value.float _ _)) _ _ _); with_reducible ((k_here; k_dflt (refine' fdiv_safe ?k1 ?k2 ?_; (case k1 => with_unfolding_all rfl); (case k2 => decide +kernel); k_whole)))) | ((with_reducible show wpAny _ _ (binaryOp .Div (Value.int _ _) (Value.int _ _)) _ _ _); with_reducible ((k_here; k_dflt (refine' div_safe ?k1 ?k2 ?k3 ?_; (case k1 => with_unfolding_all rfl); (case k2 => omega); (case k3 => omega); k_whole)))) | ((with_reducible show wpAny _ _ (call (Value.builtin "min") _) _ _ _); with_reducible ((k_here; (with_reducible show wpAny _ _ (call (Value.builtin _) [Value.int _ _, Value.int _ _, Value.int _ _]) _ _ _); k_dflt (refine' min3_N ?k1 ?k2 ?k3 ?_; (case k1 => with_unfolding_all rfl); (case k2 => k_asm); (case k3 => k_asm); k_whole); intro h' tk' tt' F' N'; (try k_sweep)))) | ((with_reducible show wpAny _ _ (call (Value.builtin "max") _) _ _ _); with_reducible ((k_here; (with_reducible show wpAny _ _ (call (Value.builtin _) [Value.int _ _, Value.int _ _, Value.int _ _]) _ _ _); k_dflt (refine' max3_N ?k1 ?k2 ?k3 ?_; (case k1 => with_unfolding_all rfl); (case k2 => k_asm); (case k3 => k_asm); k_whole); intro h' tk' tt' F' N'; (try k_sweep)))) | walk1 | dsimp only | (leave1; walk_say "STEP leave1"; try dsimp only)))
  refine hret _ _ _ _ (by k_asm) (by k_asm) ⟨rfl, _, rfl⟩
theorem turned_con (w : World) (mean : ExcName → Option Value) (mg mb : Str → Option Value) (x y : Addr) (i j k l : Int) (ti tj tk tl : Tok) (n n' : Nat) (news : List (Addr × Obj))
   (hx : (x, { cls := .type "tuple", data := .seq #[.int i ti, .int j tj] n }) ∈ news)
   (hy : (y, { cls := .type "tuple", data := .seq #[.int k tk, .int l tl] n' }) ∈ news)
   (hi : -100 < i ∧ i < 100) (hj : -100 < j ∧ j < 100) (hkk : -100 < k ∧ k < 100) (hl : -100 < l ∧ l < 100) :
   Con w mean mg mb 145 news [.ref x, .ref y] 1 (fun news' v => ∃ D t1 t2, v = .ref D ∧ (∀ p ∈ news, p.1 < D) ∧ news' = (D, { cls := .type "tuple", data := .seq #[.int (tbA i j k l) t1, .int (tbB i j k l) t2] }) :: news) := by
  unfold Con; k_fill
  intro pr ls dp un gd cn cs a ccd cl outer A₀ base h₀ L m s Q E B F X N T hk hd hu hret
  ((refine wpAny_call ?_; k_dflt ktr_enter; refine acut ?_; intro _))
  (repeat' (first | (k_unfold; (try dsimp only)) | (k_end; wrow_close) | ((with_reducible show wpAny _ _ (execs (_ :: _) _) _ _ _); with_reducible ((refine execs_cut ?_; intro _ _))) | ((with_reducible show wpAny _ _ (callWith _ (Value.ref _) _ _ _) _ _ _); with_reducible ((k_here; k_dflt (first | (refine' callWith_K ?k1 ?k2 ?_; (case k1 => k_asm); (case k2 => k_is); k_whole) | (refine' callWith_K0 ?k1 ?k2 ?_; (case k1 => k_in); (case k2 => k_is); k_whole))))) | ((with_reducible show wpAny _ _ (binaryOp .Mult (Value.int _ _) (Value.float _ _)) _ _ _); with_reducible ((k_here; k_dflt (refine' mulif_safe ?k1 ?_; (case k1 => omega); k_whole)))) | ((with_reducible show wpAny _ _ (binaryOp .Mult (Value.float _ _) (Value.int _ _)) _ _ _); with_reducible ((k_here; k_dflt (refine' mulfi_safe ?k1 ?_; (case k1 => omega); k_whole)))) | ((with_reducible show wpAny _ _ (binaryOp .Mod (Value.float _ _) (Value.float _ _)) _ _ _); with_reducible ((k_here; k_dflt (refine' fmod_safe ?k1 ?k2 ?_; (case k1 => with_unfolding_all rfl); (case k2 => decide +kernel); k_whole)))) | ((with_reducible show wpAny _ _ (binaryOp .Div (Value.float _ _) (Value.float _ _)) _ _ _); with_reducible ((k_here; k_dflt (refine' fdiv_safe ?k1 ?k2 ?_; (case k1 => with_unfolding_all rfl); (case k2 => decide +kernel); k_whole)))) | ((with_reducible show wpAny _ _ (binaryOp .Div (Value.int _ _) (Value.int _ _)) _ _ _); with_reducible ((k_here; k_dflt (refine' div_safe ?k1 ?k2 ?k3 ?_; (case k1 => with_unfolding_all rfl); (case k2 => omega); (case k3 => omega); k_whole)))) | ((with_reducible show wpAny _ _ (call (Value.builtin "min") _) _ _ _); with_reducible ((k_here; (with_reducible show wpAny _ _ (call (Value.builtin _) [Value.int _ _, Value.int _ _, Value.int _ _]) _ _ _); k_dflt (refine' min3_N ?k1 ?k2 ?k3 ?_; (case k1 => with_unfolding_all rfl); (case k2 => k_asm); (case k3 => k_asm); k_whole); intro h' tk' tt' F' N'; (try k_sweep)))) | ((with_reducible show wpAny _ _ (call (Value.builtin "max") _) _ _ _); with_reducible ((k_here; (with_reducible show wpAny _ _ (call (Value.builtin _) [Value.int _ _, Value.int _ _, Value.int _ _]) _ _ _); k_dflt (refine' max3_N ?k1 ?k2 ?k3 ?_; (case k1 => with_unfolding_all rfl); (case k2 => k_asm); (case k3 => k_asm); k_whole); intro h' tk' tt' F' N'; (try k_sweep)))) | walk1 | dsimp only | (leave1; walk_say "STEP leave1"; try dsimp only)))
  refine hret _ _ _ _ (by k_asm) (by k_asm) ⟨_, _, _, rfl, by (first | assumption | exact ktn_ltOf (by assumption) | exact ktn_ltOf (And.right (by assumption)) | exact ktn_ltOf (And.right (And.right (by assumption))) | exact ktn_ltOf (And.right (And.right (And.right (by assumption))))), rfl⟩
end

section
theorem rest_con (w : World) (mean : ExcName → Option Value) (mg mb : Str → Option Value) (x y : Addr) (i j k l : Int) (ti tj tk tl : Tok) (n n' : Nat) (news : List (Addr × Obj))
   (hx : (x, { cls := .type "tuple", data := .seq #[.int i ti, .int j tj] n }) ∈ news)
   (hy : (y, { cls := .type "tuple", data := .seq #[.int k tk, .int l tl] n' }) ∈ news)
   (h1 : Nm i j) (h2 : Nm k l) :
   Con w mean mg mb 152 news [.ref x, .ref y] 3 (fun news' v => ∃ D t1 t2, v = .ref D ∧ (∀ p ∈ news, p.1 < D) ∧ news' = (D, { cls := .type "tuple", data := .seq #[.int (rsA i j k l) t1, .int (rsB i j k l) t2] }) :: news) := by
  unfold Con; k_fill
  intro pr ls dp un gd cn cs a ccd cl outer A₀ base h₀ L m s Q E B F X N T hk hd hu hret
  obtain ⟨q1, q2, q3, _⟩ := rest_all h1 h2
  have q4 := nrm_pos h2
  unfold Nm at h1 h2
  ((refine wpAny_call ?_; k_dflt ktr_enter; refine acut ?_; intro _))
  (repeat' (first | (k_unfold; (try dsimp only)) | (k_end; wrow_close) | (with_reducible ((k_here; (with_reducible show wpAny _ _ (call (Value.ref 124) _) _ _ _); k_dflt (refine' (name_con _ _ _ _ _ _ _ _ _ _ _ ?ka ?kb ?kc) _ _ _ _ _ _ _ _ _ _ _ _ _ _ _ _ _ _ _ ?k1 ?k2 ?k3 ?k4 ?k5 ?kK ?kd ?ku ?_; (((case k1 => first | k_asm | ktn_no "the frames below"); (case k2 => first | k_asm | ktn_no "the frame"); (case k3 => first | k_asm | ktn_no "the written part"); (case k4 => first | k_asm | ktn_no "the ledger"); (case k5 => first | k_asm | ktn_no "the top"); (case kK => first | exact rfl | assumption | ktn_no "no def"); (case kd => first | ktr_room | ktn_no "the room"); (case ku => first | ktr_units | ktn_no "the units"))); (case ka => first | omega | assumption); (case kb => first | omega | assumption); (case kc => first | omega | assumption)); intro v' news' h' tk' F' N' hr'; obtain ⟨D', t1', t2', hv', l1, hn'⟩ := hr'; subst hv'; subst hn'; (try k_lt l1); (try k_sweep)))) | (with_reducible ((k_here; (with_reducible show wpAny _ _ (call (Value.ref 145) _) _ _ _); k_dflt (refine' (turned_con _ _ _ _ _ _ _ _ _ _ _ _ _ _ _ _ _ ?ka ?kb ?kc ?kd1 ?ke ?kf) _ _ _ _ _ _ _ _ _ _ _ _ _ _ _ _ _ _ _ ?k1 ?k2 ?k3 ?k4 ?k5 ?kK ?kd ?ku ?_; (((case k1 => first | k_asm | ktn_no "the frames below"); (case k2 => first | k_asm | ktn_no "the frame"); (case k3 => first | k_asm | ktn_no "the written part"); (case k4 => first | k_asm | ktn_no "the ledger"); (case k5 => first | k_asm | ktn_no "the top"); (case kK => first | exact rfl | assumption | ktn_no "no def"); (case kd => first | ktr_room | ktn_no "the room"); (case ku => first | ktr_units | ktn_no "the units"))); (case ka => k_mem); (case kb => k_mem); (case kc => omega); (case kd1 => omega); (case ke => omega); (case kf => omega)); intro v' news' h' tk' F' N' hr'; obtain ⟨D', t1', t2', hv', l1, hn'⟩ := hr'; subst hv'; subst hn'; (try k_lt l1); (try k_sweep)))) | (with_reducible ((k_here; (with_reducible show wpAny _ _ (call (Value.ref 138) _) _ _ _); k_dflt (refine' (norm_con _ _ _ _ _ _ _ _ _ _ _ ?ka ?kb ?kc) _ _ _ _ _ _ _ _ _ _ _ _ _ _ _ _ _ _ _ ?k1 ?k2 ?k3 ?k4 ?k5 ?kK ?kd ?ku ?_; (((case k1 => first | k_asm | ktn_no "the frames below"); (case k2 => first | k_asm | ktn_no "the frame"); (case k3 => first | k_asm | ktn_no "the written part"); (case k4 => first | k_asm | ktn_no "the ledger"); (case k5 => first | k_asm | ktn_no "the top"); (case kK => first | exact rfl | assumption | ktn_no "no def"); (case kd => first | ktr_room | ktn_no "the room"); (case ku => first | ktr_units | ktn_no "the units"))); (case ka => k_mem); (case kb => omega); (case kc => omega)); intro v' news' h' tk' F' N' hr'; obtain ⟨hn', t1', hv'⟩ := hr'; subst hv'; subst hn'; (try k_sweep)))) | ((with_reducible show wpAny _ _ (execs (_ :: _) _) _ _ _); with_reducible ((refine execs_cut ?_; intro _ _))) | ((with_reducible show wpAny _ _ (callWith _ (Value.ref _) _ _ _) _ _ _); with_reducible ((k_here; k_dflt (first | (refine' callWith_K ?k1 ?k2 ?_; (case k1 => k_asm); (case k2 => k_is); k_whole) | (refine' callWith_K0 ?k1 ?k2 ?_; (case k1 => k_in); (case k2 => k_is); k_whole))))) | ((with_reducible show wpAny _ _ (binaryOp .Mult (Value.int _ _) (Value.float _ _)) _ _ _); with_reducible ((k_here; k_dflt (refine' mulif_safe ?k1 ?_; (case k1 => omega); k_whole)))) | ((with_reducible show wpAny _ _ (binaryOp .Mult (Value.float _ _) (Value.int _ _)) _ _ _); with_reducible ((k_here; k_dflt (refine' mulfi_safe ?k1 ?_; (case k1 => omega); k_whole)))) | ((with_reducible show wpAny _ _ (binaryOp .Mod (Value.float _ _) (Value.float _ _)) _ _ _); with_reducible ((k_here; k_dflt (refine' fmod_safe ?k1 ?k2 ?_; (case k1 => with_unfolding_all rfl); (case k2 => decide +kernel); k_whole)))) | ((with_reducible show wpAny _ _ (binaryOp .Div (Value.float _ _) (Value.float _ _)) _ _ _); with_reducible ((k_here; k_dflt (refine' fdiv_safe ?k1 ?k2 ?_; (case k1 => with_unfolding_all rfl); (case k2 => decide +kernel); k_whole)))) | ((with_reducible show wpAny _ _ (binaryOp .Div (Value.int _ _) (Value.int _ _)) _ _ _); with_reducible ((k_here; k_dflt (refine' div_safe ?k1 ?k2 ?k3 ?_; (case k1 => with_unfolding_all rfl); (case k2 => omega); (case k3 => omega); k_whole)))) | ((with_reducible show wpAny _ _ (call (Value.builtin "min") _) _ _ _); with_reducible ((k_here; (with_reducible show wpAny _ _ (call (Value.builtin _) [Value.int _ _, Value.int _ _, Value.int _ _]) _ _ _); k_dflt (refine' min3_N ?k1 ?k2 ?k3 ?_; (case k1 => with_unfolding_all rfl); (case k2 => k_asm); (case k3 => k_asm); k_whole); intro h' tk' tt' F' N'; (try k_sweep)))) | ((with_reducible show wpAny _ _ (call (Value.builtin "max") _) _ _ _); with_reducible ((k_here; (with_reducible show wpAny _ _ (call (Value.builtin _) [Value.int _ _, Value.int _ _, Value.int _ _]) _ _ _); k_dflt (refine' max3_N ?k1 ?k2 ?k3 ?_; (case k1 => with_unfolding_all rfl); (case k2 => k_asm); (case k3 => k_asm); k_whole); intro h' tk' tt' F' N'; (try k_sweep)))) | walk1 | dsimp only | (leave1; walk_say "STEP leave1"; try dsimp only)))
  refine hret _ _ _ _ (by k_asm) (led_ii (drop2 (drop2 (by k_asm))) rfl rfl) ⟨_, _, _, rfl, by (first | assumption | exact ktn_ltOf (by assumption) | exact ktn_ltOf (And.right (by assumption)) | exact ktn_ltOf (And.right (And.right (by assumption))) | exact ktn_ltOf (And.right (And.right (And.right (by assumption))))), rfl⟩
end

section
theorem seven_cases {a : Int} (h : Seven a) {P : Int → Prop} (h0 : P 0) (h1 : P 1) (h2 : P 2) (h3 : P 3) (h4 : P 4) (h5 : P 5) (h6 : P 6) : P a := by
  have : a = 0 ∨ a = 1 ∨ a = 2 ∨ a = 3 ∨ a = 4 ∨ a = 5 ∨ a = 6 := by omega
  rcases this with rfl | rfl | rfl | rfl | rfl | rfl | rfl <;> assumption
theorem int_dg {a : Int} (h : Seven a) : PySem.intText? ⟨#[dg a]⟩ = some a :=
  seven_cases h (P := fun a => PySem.intText? ⟨#[dg a]⟩ = some a) (by decide +kernel) (by decide +kernel) (by decide +kernel) (by decide +kernel) (by decide +kernel) (by decide +kernel) (by decide +kernel)
theorem str_dg {a : Int} (h : Seven a) : Str.ofString (toString a) = ⟨#[dg a]⟩ :=
  seven_cases h (P := fun a => Str.ofString (toString a) = ⟨#[dg a]⟩) (by decide +kernel) (by decide +kernel) (by decide +kernel) (by decide +kernel) (by decide +kernel) (by decide +kernel) (by decide +kernel)
theorem item_W3_0 (a b c : Int) : Txt.item (W3 a b c) 0 = ⟨#[dg a]⟩ := rfl
theorem item_W3_1 (a b c : Int) : Txt.item (W3 a b c) 1 = ⟨#[dg b]⟩ := rfl
theorem item_W3_2 (a b c : Int) : Txt.item (W3 a b c) 2 = ⟨#[dg c]⟩ := rfl
theorem len_W3 (a b c : Int) : (W3 a b c).length = 3 := rfl
section
variable {prog : Program} {w : World} {A : Around} {E : Value → Shared → Prop} {s : Shared} {value slice : Expr} {t u : Tok} {Q : Value → Shared → Prop} {a b c : Int}
theorem sub_W3 {i : Int} {r : Str} (hi : i = 0 ∧ r = ⟨#[dg a]⟩ ∨ i = 1 ∧ r = ⟨#[dg b]⟩ ∨ i = 2 ∧ r = ⟨#[dg c]⟩)
    (h : Q (.str r s.toks) { s with toks := s.toks + 1 })
    (hs : subscripted slice false (.str (W3 a b c) t) (.int i u) = operate [.str (W3 a b c) t, .int i u] (getItem (.str (W3 a b c) t) (.int i u)))
    (ht : ∀ r, letTemporaryGo value (.str (W3 a b c) t) r = pure ()) :
    wpAny (model prog w) A (subscriptTail value slice (.str (W3 a b c) t) (.int i u)) Q E s := by
  have e : Txt.item (W3 a b c) i = r := by rcases hi with ⟨rfl, rfl⟩ | ⟨rfl, rfl⟩ | ⟨rfl, rfl⟩ <;> rfl
  have hl := len_W3 a b c
  refine item_str ?_ ?_ ?_ (fun _ => by rw [e]; exact h) hs ht
  · rcases hi with ⟨rfl, rfl⟩ | ⟨rfl, rfl⟩ | ⟨rfl, rfl⟩ <;> rfl
  · rw [hl]; rcases hi with ⟨rfl, rfl⟩ | ⟨rfl, rfl⟩ | ⟨rfl, rfl⟩ <;> decide
  · rw [hl]; rcases hi with ⟨rfl, rfl⟩ | ⟨rfl, rfl⟩ | ⟨rfl, rfl⟩ <;> decide
theorem int_of_dg (ha : Seven a) (h : Q (.int a s.toks) { s with toks := s.toks + 1 }) : wpAny (model prog w) A (call (.type "int") [.str ⟨#[dg a]⟩ t]) Q E s :=
  KIN.call_text (int_dg ha) (show 1 ≤ 640 by decide) h
end
end

section
/-- a pair's object -/
noncomputable abbrev pairO (x y : Value) (n : Nat) : Obj := { cls := .type "tuple", data := .seq #[x, y] n }
section
variable {prog : Program} {w : World} {A : Around} {E : Value → Shared → Prop} {s : Shared} {Q : Value → Shared → Prop}
theorem pair_lt_tree {a b : Addr} {x0 x1 y0 y1 : Value} {n k : Nat} {P : PySem.Fin → Shared → Prop} (ha : s.heap.get? a = some (pairO x0 x1 n)) (hb : s.heap.get? b = some (pairO y0 y1 k))
    (h : wpAny (model prog w) A (eqBool x0 y0) (fun e s1 => if e = true then wpAny (model prog w) A (eqBool x1 y1) (fun e s2 => if e = true then P (.done (.ret (.bool false))) s2 else
        wpAny (model prog w) A (richCompare .Lt x1 y1) (fun v s3 => P (.done (.ret v)) s3) E s2) E s1
      else wpAny (model prog w) A (richCompare .Lt x0 y0) (fun v s3 => P (.done (.ret v)) s3) E s1) E s) :
    wpAny (model prog w) A (Builtin.«tuple.__lt__» ⟨[.ref a, .ref b], []⟩) P E s := by
  have hTb : s.TypeIs (.ref b) "tuple" := ⟨_, hb, rfl⟩
  show wpAny _ _ (isInstance (.ref b) (.type "tuple") >>= _) _ _ s
  refine wpAny_bind (wpAny_isInstance hTb isSubtype_tuple_tuple ?_)
  simp only [Bool.not_true, Bool.false_eq_true, if_false]
  refine wpAny_bind (wpAny_tupleItemsOf ha rfl ?_)
  refine wpAny_bind (wpAny_tupleItemsOf hb rfl ?_)
  refine wpAny_bind ?_
  show wpAny _ _ (forIn [(x0, y0), (x1, y1)] _ _) _ _ s
  rw [List.forIn_cons]
  refine wpAny_bind (wpAny_bind (wpAny_mono h (fun e s1 h1 => ?_) fun _ _ x => x))
  cases e with
  | false =>
    simp only [Bool.not_false, if_true, Bool.false_eq_true, if_false] at h1 ⊢
    refine wpAny_bind (wpAny_rule (wpAny_bind (wpAny_mono h1 (fun v s3 h3 => ?_) fun _ _ x => x)))
    exact wpAny_bind (wpAny_pure (wpAny_pure (wpAny_pure (wpAny_pure h3))))
  | true =>
    simp only [Bool.not_true, Bool.false_eq_true, if_false, if_true] at h1 ⊢
    refine wpAny_pure ?_
    dsimp only
    rw [List.forIn_cons]
    refine wpAny_bind (wpAny_bind (wpAny_mono h1 (fun e s2 h2 => ?_) fun _ _ x => x))
    cases e with
    | false =>
      simp only [Bool.not_false, if_true, Bool.false_eq_true, if_false] at h2 ⊢
      refine wpAny_bind (wpAny_rule (wpAny_bind (wpAny_mono h2 (fun v s3 h3 => ?_) fun _ _ x => x)))
      exact wpAny_bind (wpAny_pure (wpAny_pure (wpAny_pure (wpAny_pure h3))))
    | true =>
      simp only [Bool.not_true, Bool.false_eq_true, if_false, if_true] at h2 ⊢
      refine wpAny_pure ?_
      dsimp only
      rw [List.forIn_nil]
      exact wpAny_pure (wpAny_pure h2)
end

section
variable {prog : Program} {w : World} {A : Around} {E : Value → Shared → Prop} {s : Shared} {Q : Value → Shared → Prop}
theorem pair_lt {a b : Addr} {x0 x1 y0 y1 : Value} {n k : Nat} (ha : s.heap.get? a = some (pairO x0 x1 n)) (hb : s.heap.get? b = some (pairO y0 y1 k)) (hu : A.units < cLine)
    (h : wpAny (model prog w) A.in1 (eqBool x0 y0) (fun e s1 => if e = true then wpAny (model prog w) A.in1 (eqBool x1 y1) (fun e s2 => if e = true then Q (.bool false) s2 else
        wpAny (model prog w) A.in1 (richCompare .Lt x1 y1) (fun v s3 => v ≠ .notImplemented ∧ Q v s3) E s2) E s1
      else wpAny (model prog w) A.in1 (richCompare .Lt x0 y0) (fun v s3 => v ≠ .notImplemented ∧ Q v s3) E s1) E s) :
    wpAny (model prog w) A (compareOp .Lt (.ref a) (.ref b)) Q E s := by
  have hTa : s.TypeIs (.ref a) "tuple" := ⟨_, ha, rfl⟩
  have hTb : s.TypeIs (.ref b) "tuple" := ⟨_, hb, rfl⟩
  refine wpAny_richCompare_same_room (op := .Lt) hTa hTb F.slot_tuple_lt (wpAny_call_entry F.slot_tuple_lt hTa F.entry_tuple_lt (pair_lt_tree ha hb (wpAny_mono h (fun e s1 h1 => ?_) fun _ _ x => x)) (F.args_tuple_lt_2 _ _)) hu
  cases e with
  | false =>
    simp only [Bool.false_eq_true, if_false] at h1 ⊢
    exact wpAny_mono h1 (fun v s3 h3 => ⟨v, rfl, h3⟩) fun _ _ x => x
  | true =>
    simp only [if_true] at h1 ⊢
    refine wpAny_mono h1 (fun e s2 h2 => ?_) fun _ _ x => x
    cases e with
    | false =>
      simp only [Bool.false_eq_true, if_false] at h2 ⊢
      exact wpAny_mono h2 (fun v s3 h3 => ⟨v, rfl, h3⟩) fun _ _ x => x
    | true =>
      simp only [if_true] at h2 ⊢
      exact ⟨_, rfl, (fun e => nomatch e), h2⟩
theorem ints_lt {a b : Addr} {i j k l : Int} {t1 t2 t3 t4 : Tok} {n n' : Nat} (ha : s.heap.get? a = some (pairO (.int i t1) (.int j t2) n)) (hb : s.heap.get? b = some (pairO (.int k t3) (.int l t4) n')) (hu : A.units < cLine)
    (h : Q (.bool (if i = k then decide (j < l) else decide (i < k))) s) :
    wpAny (model prog w) A (compareOp .Lt (.ref a) (.ref b)) Q E s := by
  refine pair_lt ha hb hu (wpAny_eqBool_int ?_)
  by_cases e1 : i = k
  · subst e1
    simp only [beq_self_eq_true, if_true] at h ⊢
    refine wpAny_eqBool_int ?_
    by_cases e2 : j = l
    · subst e2
      simpa using h
    · rw [if_neg (by simpa using e2)]
      exact lt_int (Q := fun v s3 => v ≠ .notImplemented ∧ Q v s3) ⟨(fun e => nomatch e), h⟩
  · rw [if_neg (by simpa using e1)]
    rw [if_neg e1] at h
    exact lt_int (Q := fun v s3 => v ≠ .notImplemented ∧ Q v s3) ⟨(fun e => nomatch e), h⟩
/-- an item of the heap: its norm and its name -/
noncomputable def ItemIn (news : List (Addr × Obj)) (x : Addr) (a b : Int) : Prop :=
  ∃ y tn ta tb n k, (x, pairO (.int (nrm a b) tn) (.ref y) n) ∈ news ∧ (y, pairO (.int a ta) (.int b tb) k) ∈ news
noncomputable def key (a b : Int) : Int := nrm a b * 100 + a * 10 + b
theorem key_lt {a b c d : Int} (h1 : Nm a b) (h2 : Nm c d) :
    (if nrm a b = nrm c d then (if a = c ∧ b = d then false else (if a = c then decide (b < d) else decide (a < c))) else decide (nrm a b < nrm c d)) = decide (key a b < key c d) := by
  unfold key
  generalize nrm a b = x
  generalize nrm c d = y
  split
  · split
    · symm; apply decide_eq_false; omega
    · split
      · apply decide_eq_decide.mpr; omega
      · apply decide_eq_decide.mpr; omega
  · apply decide_eq_decide.mpr; omega
theorem isKey2 {h : Heap} {a : Addr} {i j : Int} {t1 t2 : Tok} {n : Nat} (ha : h.get? a = some (pairO (.int i t1) (.int j t2) n)) : IsTupleKey (intKind prog w) h [i, j] a :=
  ⟨_, _, _, ha, rfl, rfl, .cons (by simp [intKind, Value.isInt]) (.cons (by simp [intKind, Value.isInt]) .nil)⟩
theorem item_lt {news : List (Addr × Obj)} {h₀ : Heap} {L x y : Addr} {a b c d : Int} (N : News h₀ L s.heap news) (hx : ItemIn news x a b) (hy : ItemIn news y c d) (h1 : Nm a b) (h2 : Nm c d) (hu : A.units + 2 < cLine)
    (h : Q (.bool (decide (key a b < key c d))) s) : wpAny (model prog w) A (compareOp .Lt (.ref x) (.ref y)) Q E s := by
  obtain ⟨x', _, _, _, _, _, p1, p2⟩ := hx
  obtain ⟨y', _, _, _, _, _, q1, q2⟩ := hy
  have hu1 : A.in1.units < cLine := by show A.units + 1 < cLine; omega
  rw [← key_lt h1 h2] at h
  refine pair_lt (N.get p1) (N.get q1) (by omega) (wpAny_eqBool_int ?_)
  by_cases e1 : nrm a b = nrm c d
  · rw [if_pos (by simpa using e1)]
    rw [if_pos e1] at h
    refine wpAny_eqBool_tuple hu1 (isKey2 (N.get p2)) (isKey2 (N.get q2)) ?_
    by_cases e2 : a = c ∧ b = d
    · rw [if_pos e2] at h
      obtain ⟨rfl, rfl⟩ := e2
      simpa using h
    · rw [if_neg e2] at h
      rw [if_neg (by simpa using e2)]
      exact ints_lt (A := A.in1) (Q := fun v s3 => v ≠ .notImplemented ∧ Q v s3) (N.get p2) (N.get q2) hu1 ⟨(fun e => nomatch e), h⟩
  · rw [if_neg (by simpa using e1)]
    rw [if_neg e1] at h
    exact lt_int (Q := fun v s3 => v ≠ .notImplemented ∧ Q v s3) ⟨(fun e => nomatch e), h⟩
end
end

section
open PySem
/-- heapq's two ways through a list, by a key -/
noncomputable def sdn (κ : Addr → Int) : Nat → List Addr → Nat → Nat → Addr → List Addr
  | 0, xs, _, p, z => xs.set p z
  | f + 1, xs, st, p, z =>
    if st < p then
      match xs[(p - 1) / 2]? with
      | some q => if κ z < κ q then sdn κ f (xs.set p q) st ((p - 1) / 2) z else xs.set p z
      | none => xs.set p z
    else xs.set p z
noncomputable def down (κ : Addr → Int) (xs : List Addr) (st p : Nat) : List Addr := match xs[p]? with
  | some z => sdn κ p xs st p z
  | none => xs
noncomputable def kidOf (κ : Addr → Int) (xs : List Addr) (c : Nat) : Nat :=
  match xs[c]?, xs[c + 1]? with
  | some q, some r => if κ q < κ r then c else c + 1
  | _, _ => c
noncomputable def sup (κ : Addr → Int) : Nat → List Addr → Nat → List Addr × Nat
  | 0, xs, p => (xs, p)
  | f + 1, xs, p =>
    match xs[kidOf κ xs (2 * p + 1)]? with
    | some q => sup κ f (xs.set p q) (kidOf κ xs (2 * p + 1))
    | none => (xs, p)
noncomputable def up (κ : Addr → Int) (xs : List Addr) (p : Nat) : List Addr := match xs[p]? with
  | some z => down κ ((sup κ xs.length xs p).1.set (sup κ xs.length xs p).2 z) p (sup κ xs.length xs p).2
  | none => xs
theorem sdn_low {κ : Addr → Int} {f : Nat} {xs : List Addr} {st p : Nat} {z : Addr} (h : p ≤ st) : sdn κ f xs st p z = xs.set p z := by
  cases f with
  | zero => rfl
  | succ f => unfold sdn; rw [if_neg (by omega)]
theorem sdn_stop {κ : Addr → Int} {f : Nat} {xs : List Addr} {st p : Nat} {z q : Addr} (hq : xs[(p - 1) / 2]? = some q) (h : ¬ κ z < κ q) : sdn κ f xs st p z = xs.set p z := by
  cases f with
  | zero => rfl
  | succ f => unfold sdn; split
              · rw [hq]; dsimp only; rw [if_neg h]
              · rfl
theorem sdn_go {κ : Addr → Int} {f : Nat} {xs : List Addr} {st p : Nat} {z q : Addr} (hp : st < p) (hq : xs[(p - 1) / 2]? = some q) (h : κ z < κ q) : sdn κ (f + 1) xs st p z = sdn κ f (xs.set p q) st ((p - 1) / 2) z := by
  rw [sdn, if_pos hp, hq]; dsimp only; rw [if_pos h]

theorem kid_a {κ : Addr → Int} {xs : List Addr} {c : Nat} {q r : Addr} (hq : xs[c]? = some q) (hr : xs[c + 1]? = some r) (h : κ q < κ r) : kidOf κ xs c = c := by
  unfold kidOf; rw [hq, hr]; dsimp only; rw [if_pos h]
theorem kid_b {κ : Addr → Int} {xs : List Addr} {c : Nat} {q r : Addr} (hq : xs[c]? = some q) (hr : xs[c + 1]? = some r) (h : ¬ κ q < κ r) : kidOf κ xs c = c + 1 := by
  unfold kidOf; rw [hq, hr]; dsimp only; rw [if_neg h]
theorem kid_c {κ : Addr → Int} {xs : List Addr} {c : Nat} (hr : xs.length ≤ c + 1) : kidOf κ xs c = c := by
  unfold kidOf
  have e : xs[c + 1]? = none := List.getElem?_eq_none_iff.mpr hr
  rw [e]
  cases xs[c]? <;> rfl
theorem sup_stop {κ : Addr → Int} {f : Nat} {xs : List Addr} {p : Nat} (h : xs.length ≤ 2 * p + 1) : sup κ f xs p = (xs, p) := by
  cases f with
  | zero => rfl
  | succ f =>
    rw [sup, kid_c (by omega), List.getElem?_eq_none_iff.mpr h]
theorem sup_go {κ : Addr → Int} {f : Nat} {xs : List Addr} {p c : Nat} {q : Addr} (hc : kidOf κ xs (2 * p + 1) = c) (hq : xs[c]? = some q) : sup κ (f + 1) xs p = sup κ f (xs.set p q) c := by
  rw [sup, hc, hq]

noncomputable def popL (κ : Addr → Int) (xs : List Addr) (z : Addr) : List Addr := if xs = [] then [] else up κ (xs.set 0 z) 0
noncomputable def popV (xs : List Addr) (z : Addr) : Addr := xs.headD z
noncomputable def pushL (κ : Addr → Int) (xs : List Addr) (x : Addr) : List Addr := down κ (xs ++ [x]) 0 xs.length
noncomputable def hfy (κ : Addr → Int) : Nat → List Addr → List Addr
  | 0, xs => xs
  | i + 1, xs => hfy κ i (up κ xs i)
noncomputable def heapL (κ : Addr → Int) (xs : List Addr) : List Addr := hfy κ (xs.length / 2) xs
theorem sdn_len {κ : Addr → Int} : ∀ {f : Nat} {xs : List Addr} {st p : Nat} {z : Addr}, (sdn κ f xs st p z).length = xs.length
  | 0, _, _, _, _ => by simp [sdn]
  | f + 1, xs, st, p, z => by
    unfold sdn
    split
    · split
      · split
        · rw [sdn_len]; simp
        · simp
      · simp
    · simp
theorem down_len {κ : Addr → Int} {xs : List Addr} {st p : Nat} : (down κ xs st p).length = xs.length := by
  unfold down; split
  · exact sdn_len
  · rfl
theorem sup_len {κ : Addr → Int} : ∀ {f : Nat} {xs : List Addr} {p : Nat}, (sup κ f xs p).1.length = xs.length
  | 0, _, _ => rfl
  | f + 1, xs, p => by
    unfold sup
    split
    · rw [sup_len]; simp
    · rfl
theorem up_len {κ : Addr → Int} {xs : List Addr} {p : Nat} : (up κ xs p).length = xs.length := by
  unfold up; split
  · rw [down_len]; simp [sup_len]
  · rfl
theorem sdn_mem {κ : Addr → Int} {P : Addr → Prop} : ∀ {f : Nat} {xs : List Addr} {st p : Nat} {z : Addr}, (∀ x ∈ xs, P x) → P z → ∀ x ∈ sdn κ f xs st p z, P x
  | 0, xs, st, p, z, h, hz, x, hx => by
    rcases List.mem_or_eq_of_mem_set (show x ∈ xs.set p z from hx) with q | q
    · exact h x q
    · exact q ▸ hz
  | f + 1, xs, st, p, z, h, hz, x, hx => by
    have fin : ∀ x ∈ xs.set p z, P x := fun x hx => by
      rcases List.mem_or_eq_of_mem_set hx with q | q
      · exact h x q
      · exact q ▸ hz
    unfold sdn at hx
    split at hx
    · split at hx
      · rename_i q hq
        split at hx
        · refine sdn_mem (f := f) (xs := xs.set p q) (fun y hy => ?_) hz x hx
          rcases List.mem_or_eq_of_mem_set hy with r | r
          · exact h y r
          · exact r ▸ h q (List.mem_of_getElem? hq)
        · exact fin x hx
      · exact fin x hx
    · exact fin x hx
theorem down_mem {κ : Addr → Int} {P : Addr → Prop} {xs : List Addr} {st p : Nat} (h : ∀ x ∈ xs, P x) : ∀ x ∈ down κ xs st p, P x := by
  unfold down
  split
  · rename_i z hz
    exact sdn_mem h (h z (List.mem_of_getElem? hz))
  · exact h
theorem sup_mem {κ : Addr → Int} {P : Addr → Prop} : ∀ {f : Nat} {xs : List Addr} {p : Nat}, (∀ x ∈ xs, P x) → ∀ x ∈ (sup κ f xs p).1, P x
  | 0, _, _, h => h
  | f + 1, xs, p, h => by
    unfold sup
    split
    · rename_i q hq
      refine sup_mem (f := f) fun y hy => ?_
      rcases List.mem_or_eq_of_mem_set hy with r | r
      · exact h y r
      · exact r ▸ h q (List.mem_of_getElem? hq)
    · exact h
theorem up_mem {κ : Addr → Int} {P : Addr → Prop} {xs : List Addr} {p : Nat} (h : ∀ x ∈ xs, P x) : ∀ x ∈ up κ xs p, P x := by
  unfold up
  split
  · rename_i z hz
    refine down_mem fun y hy => ?_
    rcases List.mem_or_eq_of_mem_set hy with r | r
    · exact sup_mem h y r
    · exact r ▸ h z (List.mem_of_getElem? hz)
  · exact h

theorem pop_is {κ : Addr → Int} {xs : List Addr} {z y : Addr} (h : xs[0]? = some y) : popV xs z = y ∧ popL κ xs z = up κ (xs.set 0 z) 0 := by
  cases xs with
  | nil => cases h
  | cons a r =>
    refine ⟨?_, by unfold popL; rw [if_neg (by simp)]⟩
    simpa [popV] using h
theorem pop_no {κ : Addr → Int} {xs : List Addr} {z : Addr} (h : ¬ 0 < xs.length) : popV xs z = z ∧ popL κ xs z = xs := by
  cases xs with
  | nil => exact ⟨rfl, rfl⟩
  | cons a r => simp at h
end

section
noncomputable abbrev refs (xs : List Addr) : Array Value := (xs.map Value.ref).toArray
section
variable {prog : Program} {w : World} {A : Around} {E : Value → Shared → Prop} {s : Shared} {h₀ : Heap} {L D : Addr} {m : Str → Option Value} {news news' : List (Addr × Obj)} {n : Nat} {xs : List Addr} {k : Int} {t u : Tok}
theorem refs_item {value slice : PySem.Expr} {Q : Value → Shared → Prop} (N : News h₀ L s.heap news) (hm : (D, listOf (refs xs) n) ∈ news) (h0 : 0 ≤ k) (h1 : k < xs.length) (hl : xs.length ≤ 1000)
    (h : ∀ x, x ∈ xs → xs[k.toNat]? = some x → Q (.ref x) s)
    (hs : subscripted slice false (.ref D) (.int k u) = operate [.ref D, .int k u] (getItem (.ref D) (.int k u))) :
    wpAny (model prog w) A (subscriptTail value slice (.ref D) (.int k u)) Q E s := by
  have hL : s.heap.IsList D (refs xs) := PySem.IsL.isList (n := n) (N.get hm)
  obtain ⟨x, hx⟩ : ∃ x, xs[k.toNat]? = some x := by
    cases e : xs[k.toNat]? with
    | some x => exact ⟨x, rfl⟩
    | none => rw [List.getElem?_eq_none_iff] at e; omega
  exact tail_any hL.typeIs slot_list_getitem.lookup (wpAny_getItem_list (x := .ref x) hL h0 (by omega) (by simp [hx]) (h x (List.mem_of_getElem? hx) hx)) hs
theorem refs_set {x : Addr} {Q : Unit → Shared → Prop} (F : Fr h₀ L s.heap m) (N : News h₀ L s.heap news) (h0 : 0 ≤ k) (h1 : k < xs.length) (hl : xs.length ≤ 1000)
    (U : Upd D (listOf (refs xs) n) (listOf (refs (xs.set k.toNat x)) n) news news') (h : ∀ h', Fr h₀ L h' m → News h₀ L h' news' → Q () { s with heap := h' }) :
    wpAny (model prog w) A (setItem (.ref D) (.int k t) (.ref x)) Q E s := by
  obtain ⟨pre, post, rfl, rfl, a, b⟩ := U.split
  have z := N (D, listOf (refs xs) n) (List.mem_append.mpr (.inr (.head _)))
  refine ki_setAt z.1 h0 (by omega) (by simpa using h1) (h _ (F.change (Heap.SameBut.update ..) z.2.1 z.2.2) (ki_turn _ N a b ?_ ?_))
  · apply Array.toList_inj.mp
    simp [refs, List.map_set]
  · simp [refs]
end
theorem pin {m : Str → Option Value} {x : Str} {v : Value} (h : m x = some v) : m = fun y => if y = x then some v else m y := by
  funext y
  by_cases e : y = x
  · rw [if_pos e, e]; exact h
  · rw [if_neg e]

/-- an item of the heap whose name is given by two functions -/
noncomputable def IT (rest : List (Addr × Obj)) (ka kb : Addr → Int) (x : Addr) : Prop := ItemIn rest x (ka x) (kb x) ∧ Nm (ka x) (kb x)
noncomputable abbrev kx (ka kb : Addr → Int) (x : Addr) : Int := key (ka x) (kb x)
theorem ItemIn.mono {news news' : List (Addr × Obj)} {x : Addr} {a b : Int} (h : ItemIn news x a b) (hs : ∀ p ∈ news, p ∈ news') : ItemIn news' x a b := by
  obtain ⟨y, tn, ta, tb, n, k, p, q⟩ := h
  exact ⟨y, tn, ta, tb, n, k, hs _ p, hs _ q⟩
theorem IT.mono {news news' : List (Addr × Obj)} {ka kb : Addr → Int} {x : Addr} (h : IT news ka kb x) (hs : ∀ p ∈ news, p ∈ news') : IT news' ka kb x := ⟨h.1.mono hs, h.2⟩
section
variable {prog : Program} {w : World} {A : Around} {E : Value → Shared → Prop} {s : Shared} {h₀ : Heap} {L D : Addr} {m : Str → Option Value} {news news' rest : List (Addr × Obj)} {n : Nat} {xs : List Addr} {k : Int} {t u : Tok}
theorem refs_itemP {P : Addr → Prop} {value slice : PySem.Expr} {Q : Value → Shared → Prop} (N : News h₀ L s.heap news) (hm : (D, listOf (refs xs) n) ∈ news) (hit : ∀ x ∈ xs, P x) (h0 : 0 ≤ k) (h1 : k < xs.length) (hl : xs.length ≤ 1000)
    (h : ∀ x, P x → x ∈ xs → xs[k.toNat]? = some x → Q (.ref x) s)
    (hs : subscripted slice false (.ref D) (.int k u) = operate [.ref D, .int k u] (getItem (.ref D) (.int k u))) :
    wpAny (model prog w) A (subscriptTail value slice (.ref D) (.int k u)) Q E s := refs_item N hm h0 h1 hl (fun x a b => h x (hit x a) a b) hs
theorem item_ltP {ka kb : Addr → Int} {x y : Addr} {Q : Value → Shared → Prop} (N : News h₀ L s.heap news) (hx : IT rest ka kb x) (hy : IT rest ka kb y) (hs : ∀ p ∈ rest, p ∈ news) (hu : A.units + 2 < cLine)
    (h : Q (.bool (decide (kx ka kb x < kx ka kb y))) s) : wpAny (model prog w) A (compareOp .Lt (.ref x) (.ref y)) Q E s :=
  item_lt N (hx.1.mono hs) (hy.1.mono hs) hx.2 hy.2 hu h
end
theorem forall_set {P : Addr → Prop} {xs : List Addr} {i : Nat} {x : Addr} (h : ∀ y ∈ xs, P y) (hx : P x) : ∀ y ∈ xs.set i x, P y := by
  intro y hy
  rcases List.mem_or_eq_of_mem_set hy with q | q
  · exact h y q
  · exact q ▸ hx

theorem pins4 {m : Str → Option Value} {a b c d : Str} {va vb vc vd : Value} (ha : m a = some va) (hb : m b = some vb) (hc : m c = some vc) (hd : m d = some vd) :
    m = fun y => if y = a then some va else if y = b then some vb else if y = c then some vc else if y = d then some vd else m y := by
  funext y
  by_cases e1 : y = a
  · rw [if_pos e1, e1]; exact ha
  · rw [if_neg e1]
    by_cases e2 : y = b
    · rw [if_pos e2, e2]; exact hb
    · rw [if_neg e2]
      by_cases e3 : y = c
      · rw [if_pos e3, e3]; exact hc
      · rw [if_neg e3]
        by_cases e4 : y = d
        · rw [if_pos e4, e4]; exact hd
        · rw [if_neg e4]

theorem refs_len {prog : Program} {w : World} {A : Around} {E : Value → Shared → Prop} {s : Shared} {h₀ : Heap} {L D : Addr} {news : List (Addr × Obj)} {n : Nat} {xs : List Addr} {Q : Value → Shared → Prop} (N : News h₀ L s.heap news) (hm : (D, listOf (refs xs) n) ∈ news) (hl : xs.length ≤ 1000)
    (h : Q (.int xs.length (s.toks + 1)) { s with toks := s.toks + 1 + 1 }) : wpAny (model prog w) A (call (.builtin "len") [.ref D]) Q E s := by
  have hL : s.heap.IsList D (refs xs) := PySem.IsL.isList (n := n) (N.get hm)
  have e : (refs xs).size = xs.length := by simp [refs]
  refine len_list hL (by rw [e]; omega) ?_
  rw [e]; exact h
theorem pins6 {m : Str → Option Value} {a b c d e f : Str} {va vb vc vd ve vf : Value} (ha : m a = some va) (hb : m b = some vb) (hc : m c = some vc) (hd : m d = some vd) (he : m e = some ve) (hf : m f = some vf) :
    m = fun y => if y = a then some va else if y = b then some vb else if y = c then some vc else if y = d then some vd else if y = e then some ve else if y = f then some vf else m y := by
  funext y
  by_cases e1 : y = a
  · rw [if_pos e1, e1]; exact ha
  · rw [if_neg e1]
    by_cases e2 : y = b
    · rw [if_pos e2, e2]; exact hb
    · rw [if_neg e2]
      by_cases e3 : y = c
      · rw [if_pos e3, e3]; exact hc
      · rw [if_neg e3]
        by_cases e4 : y = d
        · rw [if_pos e4, e4]; exact hd
        · rw [if_neg e4]
          by_cases e5 : y = e
          · rw [if_pos e5, e5]; exact he
          · rw [if_neg e5]
            by_cases e6 : y = f
            · rw [if_pos e6, e6]; exact hf
            · rw [if_neg e6]
end

section
local macro_rules | `(tactic| walk_at "mine pad") => `(tactic| skip)
local macro_rules | `(tactic| k_all) => `(tactic| assumption)
section
variable {a b n p q f st : Nat} {i : Int}
theorem om_c0 : (0 : Int) ≤ (n : Int) := Int.natCast_nonneg n
theorem om_l8 (h : n ≤ 8) : n ≤ 1000 := Nat.le_trans h (by decide)
theorem om_e8 (e : a = b) (h : b ≤ 8) : a ≤ 8 := e ▸ h
theorem om_e1 (e : a = b) (h : b ≤ 8) : a ≤ 1000 := om_l8 (e ▸ h)
theorem om_pi (h : p < n) : (p : Int) < (n : Int) := Int.ofNat_lt.mpr h
theorem om_pe (e : a = n) (h : p < n) : (p : Int) < (a : Int) := Int.ofNat_lt.mpr (e ▸ h)
theorem om_pn (e : a = n) (h : p < n) : p < a := e ▸ h
theorem om_ie (e : a = b) (h : i < (b : Int)) : i < (a : Int) := e ▸ h
theorem om_i1 (e : a = b) (h : i + 1 < (b : Int)) : i < (a : Int) := e ▸ Int.lt_trans (Int.lt_succ i) h
theorem om_d0 : 0 ≤ 2 * (p : Int) + 1 := Int.natCast_nonneg (2 * p + 1)
theorem om_d1 : 0 ≤ 2 * (p : Int) + 1 + 1 := Int.natCast_nonneg (2 * p + 1 + 1)
theorem om_t1 : (2 * (p : Int) + 1).toNat = 2 * p + 1 := rfl
theorem om_t2 : (2 * (p : Int) + 1 + 1).toNat = 2 * p + 1 + 1 := rfl
theorem om_f (h : n ≤ f + p) (h' : p < n) : f = f - 1 + 1 := (Nat.sub_add_cancel (Nat.pos_of_lt_add_left (Nat.lt_of_lt_of_le h' h))).symm
theorem om_b : p < 2 * p + 1 := Nat.lt_succ_of_le (Nat.le_mul_of_pos_left p (by decide))
theorem om_m1 (h : p < n) : n - (2 * p + 1) < n - p := Nat.sub_lt_sub_left h om_b
theorem om_m2 (h : p < n) : n - (2 * p + 1 + 1) < n - p := Nat.sub_lt_sub_left h (Nat.lt_succ_of_lt om_b)
theorem om_s1 (h : n ≤ f + 1 + p) : n ≤ f + (2 * p + 1) := Nat.le_trans h (Nat.add_assoc f 1 p ▸ Nat.add_le_add_left (Nat.add_comm p 1 ▸ Nat.succ_le_of_lt om_b) f)
theorem om_s2 (h : n ≤ f + 1 + p) : n ≤ f + (2 * p + 1 + 1) := Nat.le_succ_of_le (om_s1 h)
theorem om_n1 (h : 2 * (p : Int) + 1 < (n : Int)) : 2 * p + 1 < n := Int.ofNat_lt.mp h
theorem om_n2 (h : 2 * (p : Int) + 1 + 1 < (n : Int)) : 2 * p + 1 + 1 < n := Int.ofNat_lt.mp h
theorem om_n3 (h : 2 * (p : Int) + 1 + 1 < (n : Int)) : 2 * p + 1 < n := Nat.lt_of_succ_lt (om_n2 h)
theorem om_g1 (e : a = n) (h : ¬ 2 * (p : Int) + 1 < (n : Int)) : a ≤ 2 * p + 1 := e ▸ Nat.le_of_not_lt fun q => h (Int.ofNat_lt.mpr q)
theorem om_g2 (e : a = n) (h : ¬ 2 * (p : Int) + 1 + 1 < (n : Int)) : a ≤ 2 * p + 1 + 1 := e ▸ Nat.le_of_not_lt fun q => h (Int.ofNat_lt.mpr q)
theorem om_k1 : 2 * (p : Int) + 1 = ((2 * p + 1 : Nat) : Int) := rfl
theorem om_k2 : 2 * (p : Int) + 1 + 1 = ((2 * p + 1 + 1 : Nat) : Int) := rfl
theorem om_q1 : 2 * (2 * (p : Int) + 1) + 1 = 2 * ((2 * p + 1 : Nat) : Int) + 1 := rfl
theorem om_q2 : 2 * (2 * (p : Int) + 1 + 1) + 1 = 2 * ((2 * p + 1 + 1 : Nat) : Int) + 1 := rfl
theorem om_9 (h : b ≤ 8) (h' : p < b) : p < 9 := Nat.lt_of_lt_of_le h' (Nat.le_succ_of_le h)
theorem om_z (h : (st : Int) < (n : Int)) : 0 < n := Nat.lt_of_le_of_lt (Nat.zero_le _) (Int.ofNat_lt.mp h)
theorem om_hi0 : ∀ {n : Nat}, 0 < n → ((n : Int) - 1) / 2 = (((n - 1) / 2 : Nat) : Int)
  | k + 1, _ => by
    show ((k : Int) + 1 - 1) / 2 = _
    rw [Int.add_sub_cancel]; rfl
theorem om_hi (h : (st : Int) < (n : Int)) : ((n : Int) - 1) / 2 = (((n - 1) / 2 : Nat) : Int) := om_hi0 (om_z h)
theorem om_h0 (h : (st : Int) < (n : Int)) : 0 ≤ ((n : Int) - 1) / 2 := om_hi h ▸ Int.natCast_nonneg _
theorem om_hl (h : n < b) : (n - 1) / 2 < b := Nat.lt_of_le_of_lt (Nat.le_trans (Nat.div_le_self _ _) (Nat.sub_le _ _)) h
theorem om_h1 (e : a = b) (h : n < b) : ((n : Int) - 1) / 2 < (a : Int) := by
  subst e
  rcases Nat.eq_zero_or_pos n with q | q
  · subst q; exact Int.lt_of_lt_of_le (by decide) (Int.natCast_nonneg a)
  · rw [om_hi0 q]; exact Int.ofNat_lt.mpr (om_hl h)
theorem om_h2 (h : (st : Int) < (n : Int)) : 0 ≤ (n : Int) - 1 := Int.sub_nonneg_of_le (Int.ofNat_le.mpr (om_z h))
theorem om_ht (h : (st : Int) < (n : Int)) : (((n : Int) - 1) / 2).toNat = (n - 1) / 2 := by rw [om_hi h]; rfl
theorem om_hs (h : (st : Int) < (n : Int)) : (n - 1) / 2 < n := Nat.lt_of_le_of_lt (Nat.div_le_self _ _) (Nat.sub_lt (om_z h) Nat.one_pos)
theorem om_hf (h : n ≤ f + 1) : (n - 1) / 2 ≤ f := Nat.le_trans (Nat.div_le_self _ _) (Nat.sub_le_of_le_add h)
theorem om_h3 (h : n ≤ f) (h' : (st : Int) < (n : Int)) : f = f - 1 + 1 := (Nat.sub_add_cancel (Nat.lt_of_lt_of_le (om_z h') h)).symm
theorem om_h4 (h : (st : Int) < (n : Int)) : st < n := Int.ofNat_lt.mp h
theorem om_h5 (h : ¬ (st : Int) < (n : Int)) : n ≤ st := Nat.le_of_not_lt fun q => h (Int.ofNat_lt.mpr q)
theorem om_p : n ≤ n + p := Nat.le_add_right n p
theorem om_2a : -(2 ^ 64 : Int) < 2 := by decide
theorem om_2b : (2 : Int) < 2 ^ 64 := by decide
end
theorem down_con (w : World) (mean : ExcName → Option Value) (mg mb : Str → Option Value) (l : Addr) (xs : List Addr) (e : Nat) (ka kb : Addr → Int) (rest : List (Addr × Obj)) (st p : Nat) (ts tp : Tok)
   (hne : ∀ q ∈ rest, q.1 ≠ l) (hit : ∀ x ∈ xs, IT rest ka kb x) (hlen : xs.length ≤ 8) (hst : st < 9) (hp : p < xs.length) :
   Con w mean mg mb 56 ((l, listOf (refs xs) e) :: rest) [.ref l, .int st ts, .int p tp] 1
     (fun news' v => v = .none ∧ news' = (l, listOf (refs (down (kx ka kb) xs st p)) e) :: rest) := by
  k_with_none
  k_with "om" => first | exact om_c0 | exact om_l8 (by with_reducible assumption) | exact om_e8 (by with_reducible assumption) (by with_reducible assumption) | exact om_e1 (by with_reducible assumption) (by with_reducible assumption) | exact om_pi (by with_reducible assumption) | exact om_pe (by with_reducible assumption) (by with_reducible assumption) | exact om_pn (by with_reducible assumption) (by with_reducible assumption) | exact om_ie (by with_reducible assumption) (by with_reducible assumption) | exact om_i1 (by with_reducible assumption) (by with_reducible assumption) | exact om_d0 | exact om_d1 | exact om_t1 | exact om_t2 | exact om_f (by with_reducible assumption) (by with_reducible assumption) | exact om_m1 (by with_reducible assumption) | exact om_m2 (by with_reducible assumption) | exact om_s1 (by with_reducible assumption) | exact om_s2 (by with_reducible assumption) | exact om_n1 (by with_reducible assumption) | exact om_n2 (by with_reducible assumption) | exact om_n3 (by with_reducible assumption) | exact om_g1 (by with_reducible assumption) (by with_reducible assumption) | exact om_g2 (by with_reducible assumption) (by with_reducible assumption) | exact om_k1 | exact om_k2 | exact om_q1 | exact om_q2 | exact om_9 (by with_reducible assumption) (by with_reducible assumption) | exact om_z (by with_reducible assumption) | exact om_hi (by with_reducible assumption) | exact om_h0 (by with_reducible assumption) | exact om_hl (by with_reducible assumption) | exact om_h1 (by with_reducible assumption) (by with_reducible assumption) | exact om_h2 (by with_reducible assumption) | exact om_ht (by with_reducible assumption) | exact om_hs (by with_reducible assumption) | exact om_hf (by with_reducible assumption) | exact om_h3 (by with_reducible assumption) (by with_reducible assumption) | exact om_h4 (by with_reducible assumption) | exact om_h5 (by with_reducible assumption) | exact om_p | exact om_2a | exact om_2b | with_reducible assumption
  unfold Con; k_fill
  intro pr ls dp un gd cn cs a ccd cl outer A₀ base h₀ L m s Q E B F X N T hk hd hu hret
  ((refine wpAny_call ?_; k_dflt ktr_enter; refine acut ?_; intro _))
  (repeat' ((fail_if_success (with_reducible show wpAny _ _ (exec (Stmt.While _ _ _ _) _) _ _ _)); first | (k_unfold; (try dsimp only)) | (k_end; wrow_close) | ((with_reducible show wpAny _ _ (binaryOp .RShift (Value.int _ _) (Value.int _ _)) _ _ _); with_reducible ((k_here; k_dflt (refine' wpAny_rshift1_int ?k1 ?_; (case k1 => (first | k_extra "om" | omega)); k_whole)))) | (with_reducible ((k_here; (with_reducible show wpAny _ _ (compareOp _ (Value.ref _) (Value.ref _)) _ _ _); k_dflt (refine' item_ltP ?k1 ?k2 ?k3 ?k4 ?k5 ?_; (case k1 => k_asm); (case k2 => assumption); (case k3 => assumption); (case k4 => ((intro p hp; first | exact hp | exact List.Mem.tail _ hp | exact List.Mem.tail _ (List.Mem.tail _ hp) | exact List.Mem.tail _ (List.Mem.tail _ (List.Mem.tail _ hp))))); (case k5 => ktr_units); k_whole)))) | ((with_reducible show wpAny _ _ (setItem (Value.ref _) (Value.int _ _) _) _ _ _); with_reducible ((k_here; (with_reducible show wpAny _ _ (setItem (Value.ref _) (Value.int _ _) (Value.ref _)) _ _ _); k_dflt (refine' refs_set ?k1 ?k2 ?k3 ?k4 ?k5 ?k6 ?_; (case k1 => k_asm); (case k2 => k_asm); (case k6 => k_upd); (case k3 => (first | k_extra "om" | omega)); (case k4 => (try simp only [List.length_set]); (first | k_extra "om" | omega)); (case k5 => (try simp only [List.length_set]); (first | k_extra "om" | omega))); intro h' F' N'))) | (with_reducible ((k_here; (with_reducible show wpAny _ _ (subscriptTail _ _ (Value.ref _) (Value.int _ _)) _ _ _); k_dflt (refine' refs_itemP ?k1 ?k2 ?k3 ?k4 ?k5 ?k6 ?_ ?k7; (case k1 => k_asm); (case k2 => k_mem); (case k3 => (first | assumption | exact forall_set (by assumption) (by assumption) | exact forall_set (forall_set (by assumption) (by assumption)) (by assumption))); (case k4 => (first | k_extra "om" | omega)); (case k5 => (try simp only [List.length_set]); (first | k_extra "om" | omega)); (case k6 => (try simp only [List.length_set]); (first | k_extra "om" | omega)); (case k7 => with_unfolding_all rfl)); intro x' hP' hx' hxe'))) | ((with_reducible show wpAny _ _ (execs (_ :: _) _) _ _ _); with_reducible ((refine execs_cut ?_; intro _ _))) | ((with_reducible show wpAny _ _ (callWith _ (Value.ref _) _ _ _) _ _ _); with_reducible ((k_here; k_dflt (first | (refine' callWith_K ?k1 ?k2 ?_; (case k1 => k_asm); (case k2 => k_is); k_whole) | (refine' callWith_K0 ?k1 ?k2 ?_; (case k1 => k_in); (case k2 => k_is); k_whole))))) | ((with_reducible show wpAny _ _ (binaryOp .Mult (Value.int _ _) (Value.float _ _)) _ _ _); with_reducible ((k_here; k_dflt (refine' mulif_safe ?k1 ?_; (case k1 => (first | k_extra "om" | omega)); k_whole)))) | ((with_reducible show wpAny _ _ (binaryOp .Mult (Value.float _ _) (Value.int _ _)) _ _ _); with_reducible ((k_here; k_dflt (refine' mulfi_safe ?k1 ?_; (case k1 => (first | k_extra "om" | omega)); k_whole)))) | ((with_reducible show wpAny _ _ (binaryOp .Mod (Value.float _ _) (Value.float _ _)) _ _ _); with_reducible ((k_here; k_dflt (refine' fmod_safe ?k1 ?k2 ?_; (case k1 => with_unfolding_all rfl); (case k2 => decide +kernel); k_whole)))) | ((with_reducible show wpAny _ _ (binaryOp .Div (Value.float _ _) (Value.float _ _)) _ _ _); with_reducible ((k_here; k_dflt (refine' fdiv_safe ?k1 ?k2 ?_; (case k1 => with_unfolding_all rfl); (case k2 => decide +kernel); k_whole)))) | ((with_reducible show wpAny _ _ (binaryOp .Div (Value.int _ _) (Value.int _ _)) _ _ _); with_reducible ((k_here; k_dflt (refine' div_safe ?k1 ?k2 ?k3 ?_; (case k1 => with_unfolding_all rfl); (case k2 => (first | k_extra "om" | omega)); (case k3 => (first | k_extra "om" | omega)); k_whole)))) | ((with_reducible show wpAny _ _ (call (Value.builtin "min") _) _ _ _); with_reducible ((k_here; (with_reducible show wpAny _ _ (call (Value.builtin _) [Value.int _ _, Value.int _ _, Value.int _ _]) _ _ _); k_dflt (refine' min3_N ?k1 ?k2 ?k3 ?_; (case k1 => with_unfolding_all rfl); (case k2 => k_asm); (case k3 => k_asm); k_whole); intro h' tk' tt' F' N'; (try k_sweep)))) | ((with_reducible show wpAny _ _ (call (Value.builtin "max") _) _ _ _); with_reducible ((k_here; (with_reducible show wpAny _ _ (call (Value.builtin _) [Value.int _ _, Value.int _ _, Value.int _ _]) _ _ _); k_dflt (refine' max3_N ?k1 ?k2 ?k3 ?_; (case k1 => with_unfolding_all rfl); (case k2 => k_asm); (case k3 => k_asm); k_whole); intro h' tk' tt' F' N'; (try k_sweep)))) | walk1 | dsimp only | (leave1; walk_say "STEP leave1"; try dsimp only) | fail "no step"))
  rename Fr _ _ _ _ => F1
  rename News _ _ _ _ => N1
  obtain ⟨z, hz9⟩ : ∃ z, z = x' := ⟨_, rfl⟩
  subst hz9
  have hPz := hP'
  have hzm := hx'
  have hze := hxe'
  have hdn : down (kx ka kb) xs st p = sdn (kx ka kb) p xs st p z := by
    unfold down
    have e0 : xs[p]? = some z := by simpa using hze
    rw [e0]
  refine While_inv2L (fun n m1 news1 => ∃ (m' : Str → Option Value) (ys : List Addr) (p' f : Nat) (i' : Int) (t' : Tok), m1 = (fun y => if y = Str.ofString "heap" then some (.ref l) else if y = Str.ofString "startpos" then some (.int st ts) else if y = Str.ofString "newitem" then some (.ref z) else if y = Str.ofString "pos" then some (.int i' t') else m' y) ∧ i' = p' ∧
      news1 = (l, listOf (refs ys) e) :: rest ∧ (∀ x ∈ ys, IT rest ka kb x) ∧ ys.length = xs.length ∧ p' < xs.length ∧ p' ≤ f ∧ sdn (kx ka kb) f ys st p' z = down (kx ka kb) xs st p ∧ n = p')
    F1 N1 ⟨_, xs, p, p, _, tp, pins4 rfl rfl rfl rfl, rfl, rfl, hit, rfl, hp, Nat.le_refl _, hdn.symm, rfl⟩ ?_
  intro n m1 news1 h1 tk1 F2 N2 J W9
  obtain ⟨m', ys, p', f, i', t', rfl, rfl, rfl, hit', hlen', hp', hf, hs', rfl⟩ := J
  clear F1 N1
  (repeat' ((fail_if_success (with_reducible show wpAny _ _ (exec (Stmt.While _ _ _ _) _) _ _ _)); first | (k_unfold; (try dsimp only)) | (k_end; wrow_close) | ((with_reducible show wpAny _ _ (binaryOp .RShift (Value.int _ _) (Value.int _ _)) _ _ _); with_reducible ((k_here; k_dflt (refine' wpAny_rshift1_int ?k1 ?_; (case k1 => (first | k_extra "om" | omega)); k_whole)))) | (with_reducible ((k_here; (with_reducible show wpAny _ _ (compareOp _ (Value.ref _) (Value.ref _)) _ _ _); k_dflt (refine' item_ltP ?k1 ?k2 ?k3 ?k4 ?k5 ?_; (case k1 => k_asm); (case k2 => assumption); (case k3 => assumption); (case k4 => ((intro p hp; first | exact hp | exact List.Mem.tail _ hp | exact List.Mem.tail _ (List.Mem.tail _ hp) | exact List.Mem.tail _ (List.Mem.tail _ (List.Mem.tail _ hp))))); (case k5 => ktr_units); k_whole)))) | ((with_reducible show wpAny _ _ (setItem (Value.ref _) (Value.int _ _) _) _ _ _); with_reducible ((k_here; (with_reducible show wpAny _ _ (setItem (Value.ref _) (Value.int _ _) (Value.ref _)) _ _ _); k_dflt (refine' refs_set ?k1 ?k2 ?k3 ?k4 ?k5 ?k6 ?_; (case k1 => k_asm); (case k2 => k_asm); (case k6 => k_upd); (case k3 => (first | k_extra "om" | omega)); (case k4 => (try simp only [List.length_set]); (first | k_extra "om" | omega)); (case k5 => (try simp only [List.length_set]); (first | k_extra "om" | omega))); intro h' F' N'))) | (with_reducible ((k_here; (with_reducible show wpAny _ _ (subscriptTail _ _ (Value.ref _) (Value.int _ _)) _ _ _); k_dflt (refine' refs_itemP ?k1 ?k2 ?k3 ?k4 ?k5 ?k6 ?_ ?k7; (case k1 => k_asm); (case k2 => k_mem); (case k3 => (first | assumption | exact forall_set (by assumption) (by assumption) | exact forall_set (forall_set (by assumption) (by assumption)) (by assumption))); (case k4 => (first | k_extra "om" | omega)); (case k5 => (try simp only [List.length_set]); (first | k_extra "om" | omega)); (case k6 => (try simp only [List.length_set]); (first | k_extra "om" | omega)); (case k7 => with_unfolding_all rfl)); intro x' hP' hx' hxe'))) | ((with_reducible show wpAny _ _ (execs (_ :: _) _) _ _ _); with_reducible ((refine execs_cut ?_; intro _ _))) | ((with_reducible show wpAny _ _ (callWith _ (Value.ref _) _ _ _) _ _ _); with_reducible ((k_here; k_dflt (first | (refine' callWith_K ?k1 ?k2 ?_; (case k1 => k_asm); (case k2 => k_is); k_whole) | (refine' callWith_K0 ?k1 ?k2 ?_; (case k1 => k_in); (case k2 => k_is); k_whole))))) | ((with_reducible show wpAny _ _ (binaryOp .Mult (Value.int _ _) (Value.float _ _)) _ _ _); with_reducible ((k_here; k_dflt (refine' mulif_safe ?k1 ?_; (case k1 => (first | k_extra "om" | omega)); k_whole)))) | ((with_reducible show wpAny _ _ (binaryOp .Mult (Value.float _ _) (Value.int _ _)) _ _ _); with_reducible ((k_here; k_dflt (refine' mulfi_safe ?k1 ?_; (case k1 => (first | k_extra "om" | omega)); k_whole)))) | ((with_reducible show wpAny _ _ (binaryOp .Mod (Value.float _ _) (Value.float _ _)) _ _ _); with_reducible ((k_here; k_dflt (refine' fmod_safe ?k1 ?k2 ?_; (case k1 => with_unfolding_all rfl); (case k2 => decide +kernel); k_whole)))) | ((with_reducible show wpAny _ _ (binaryOp .Div (Value.float _ _) (Value.float _ _)) _ _ _); with_reducible ((k_here; k_dflt (refine' fdiv_safe ?k1 ?k2 ?_; (case k1 => with_unfolding_all rfl); (case k2 => decide +kernel); k_whole)))) | ((with_reducible show wpAny _ _ (binaryOp .Div (Value.int _ _) (Value.int _ _)) _ _ _); with_reducible ((k_here; k_dflt (refine' div_safe ?k1 ?k2 ?k3 ?_; (case k1 => with_unfolding_all rfl); (case k2 => (first | k_extra "om" | omega)); (case k3 => (first | k_extra "om" | omega)); k_whole)))) | ((with_reducible show wpAny _ _ (call (Value.builtin "min") _) _ _ _); with_reducible ((k_here; (with_reducible show wpAny _ _ (call (Value.builtin _) [Value.int _ _, Value.int _ _, Value.int _ _]) _ _ _); k_dflt (refine' min3_N ?k1 ?k2 ?k3 ?_; (case k1 => with_unfolding_all rfl); (case k2 => k_asm); (case k3 => k_asm); k_whole); intro h' tk' tt' F' N'; (try k_sweep)))) | ((with_reducible show wpAny _ _ (call (Value.builtin "max") _) _ _ _); with_reducible ((k_here; (with_reducible show wpAny _ _ (call (Value.builtin _) [Value.int _ _, Value.int _ _, Value.int _ _]) _ _ _); k_dflt (refine' max3_N ?k1 ?k2 ?k3 ?_; (case k1 => with_unfolding_all rfl); (case k2 => k_asm); (case k3 => k_asm); k_whole); intro h' tk' tt' F' N'; (try k_sweep)))) | walk1 | dsimp only | (leave1; walk_say "STEP leave1"; try dsimp only) | fail "no step"))
  · rename _[_]? = some _ => hxe
    rename kx _ _ _ < kx _ _ _ => hlt
    rename IT _ _ _ _ => hP
    have hq := hxe
    rw [show (((n : Int) - 1) / 2).toNat = (n - 1) / 2 from by (first | k_extra "om" | omega)] at hq
    have hgt' : st < n := by (first | k_extra "om" | omega)
    obtain ⟨f, rfl⟩ : ∃ g, f = g + 1 := ⟨f - 1, by (first | k_extra "om" | omega)⟩
    rw [sdn_go hgt' hq hlt] at hs'
    dsimp only [WhileStep2]
    refine ⟨_, _, _, _, (n - 1) / 2, rfl, by k_asm, by k_asm, by (first | k_extra "om" | omega), _, ys.set n _, (n - 1) / 2, f, _, _, pins4 rfl rfl rfl rfl, by (first | k_extra "om" | omega), rfl, forall_set hit' hP, by simp [hlen'], by (first | k_extra "om" | omega), by (first | k_extra "om" | omega), hs', rfl⟩
  · rename _[_]? = some _ => hxe
    rename ¬ kx _ _ _ < kx _ _ _ => hlt
    have hq := hxe
    rw [show (((n : Int) - 1) / 2).toNat = (n - 1) / 2 from by (first | k_extra "om" | omega)] at hq
    rw [sdn_stop hq hlt] at hs'
    dsimp only [WhileStep2]
    (repeat' ((fail_if_success (with_reducible show wpAny _ _ (exec (Stmt.While _ _ _ _) _) _ _ _)); first | (k_unfold; (try dsimp only)) | (k_end; wrow_close) | ((with_reducible show wpAny _ _ (binaryOp .RShift (Value.int _ _) (Value.int _ _)) _ _ _); with_reducible ((k_here; k_dflt (refine' wpAny_rshift1_int ?k1 ?_; (case k1 => (first | k_extra "om" | omega)); k_whole)))) | (with_reducible ((k_here; (with_reducible show wpAny _ _ (compareOp _ (Value.ref _) (Value.ref _)) _ _ _); k_dflt (refine' item_ltP ?k1 ?k2 ?k3 ?k4 ?k5 ?_; (case k1 => k_asm); (case k2 => assumption); (case k3 => assumption); (case k4 => ((intro p hp; first | exact hp | exact List.Mem.tail _ hp | exact List.Mem.tail _ (List.Mem.tail _ hp) | exact List.Mem.tail _ (List.Mem.tail _ (List.Mem.tail _ hp))))); (case k5 => ktr_units); k_whole)))) | ((with_reducible show wpAny _ _ (setItem (Value.ref _) (Value.int _ _) _) _ _ _); with_reducible ((k_here; (with_reducible show wpAny _ _ (setItem (Value.ref _) (Value.int _ _) (Value.ref _)) _ _ _); k_dflt (refine' refs_set ?k1 ?k2 ?k3 ?k4 ?k5 ?k6 ?_; (case k1 => k_asm); (case k2 => k_asm); (case k6 => k_upd); (case k3 => (first | k_extra "om" | omega)); (case k4 => (try simp only [List.length_set]); (first | k_extra "om" | omega)); (case k5 => (try simp only [List.length_set]); (first | k_extra "om" | omega))); intro h' F' N'))) | (with_reducible ((k_here; (with_reducible show wpAny _ _ (subscriptTail _ _ (Value.ref _) (Value.int _ _)) _ _ _); k_dflt (refine' refs_itemP ?k1 ?k2 ?k3 ?k4 ?k5 ?k6 ?_ ?k7; (case k1 => k_asm); (case k2 => k_mem); (case k3 => (first | assumption | exact forall_set (by assumption) (by assumption) | exact forall_set (forall_set (by assumption) (by assumption)) (by assumption))); (case k4 => (first | k_extra "om" | omega)); (case k5 => (try simp only [List.length_set]); (first | k_extra "om" | omega)); (case k6 => (try simp only [List.length_set]); (first | k_extra "om" | omega)); (case k7 => with_unfolding_all rfl)); intro x' hP' hx' hxe'))) | ((with_reducible show wpAny _ _ (execs (_ :: _) _) _ _ _); with_reducible ((refine execs_cut ?_; intro _ _))) | ((with_reducible show wpAny _ _ (callWith _ (Value.ref _) _ _ _) _ _ _); with_reducible ((k_here; k_dflt (first | (refine' callWith_K ?k1 ?k2 ?_; (case k1 => k_asm); (case k2 => k_is); k_whole) | (refine' callWith_K0 ?k1 ?k2 ?_; (case k1 => k_in); (case k2 => k_is); k_whole))))) | ((with_reducible show wpAny _ _ (binaryOp .Mult (Value.int _ _) (Value.float _ _)) _ _ _); with_reducible ((k_here; k_dflt (refine' mulif_safe ?k1 ?_; (case k1 => (first | k_extra "om" | omega)); k_whole)))) | ((with_reducible show wpAny _ _ (binaryOp .Mult (Value.float _ _) (Value.int _ _)) _ _ _); with_reducible ((k_here; k_dflt (refine' mulfi_safe ?k1 ?_; (case k1 => (first | k_extra "om" | omega)); k_whole)))) | ((with_reducible show wpAny _ _ (binaryOp .Mod (Value.float _ _) (Value.float _ _)) _ _ _); with_reducible ((k_here; k_dflt (refine' fmod_safe ?k1 ?k2 ?_; (case k1 => with_unfolding_all rfl); (case k2 => decide +kernel); k_whole)))) | ((with_reducible show wpAny _ _ (binaryOp .Div (Value.float _ _) (Value.float _ _)) _ _ _); with_reducible ((k_here; k_dflt (refine' fdiv_safe ?k1 ?k2 ?_; (case k1 => with_unfolding_all rfl); (case k2 => decide +kernel); k_whole)))) | ((with_reducible show wpAny _ _ (binaryOp .Div (Value.int _ _) (Value.int _ _)) _ _ _); with_reducible ((k_here; k_dflt (refine' div_safe ?k1 ?k2 ?k3 ?_; (case k1 => with_unfolding_all rfl); (case k2 => (first | k_extra "om" | omega)); (case k3 => (first | k_extra "om" | omega)); k_whole)))) | ((with_reducible show wpAny _ _ (call (Value.builtin "min") _) _ _ _); with_reducible ((k_here; (with_reducible show wpAny _ _ (call (Value.builtin _) [Value.int _ _, Value.int _ _, Value.int _ _]) _ _ _); k_dflt (refine' min3_N ?k1 ?k2 ?k3 ?_; (case k1 => with_unfolding_all rfl); (case k2 => k_asm); (case k3 => k_asm); k_whole); intro h' tk' tt' F' N'; (try k_sweep)))) | ((with_reducible show wpAny _ _ (call (Value.builtin "max") _) _ _ _); with_reducible ((k_here; (with_reducible show wpAny _ _ (call (Value.builtin _) [Value.int _ _, Value.int _ _, Value.int _ _]) _ _ _); k_dflt (refine' max3_N ?k1 ?k2 ?k3 ?_; (case k1 => with_unfolding_all rfl); (case k2 => k_asm); (case k3 => k_asm); k_whole); intro h' tk' tt' F' N'; (try k_sweep)))) | walk1 | dsimp only | (leave1; walk_say "STEP leave1"; try dsimp only) | fail "no step"))
    refine hret _ _ _ _ (by k_asm) (by k_asm) ⟨rfl, ?_⟩
    rw [← hs']; rfl
  · refine hret _ _ _ _ (by k_asm) (by k_asm) ⟨rfl, ?_⟩
    rw [sdn_low (by (first | k_extra "om" | omega))] at hs'
    rw [← hs']; rfl
end

section
local macro_rules | `(tactic| k_all) => `(tactic| assumption)
theorem up_con (w : World) (mean : ExcName → Option Value) (mg mb : Str → Option Value) (l : Addr) (xs : List Addr) (e : Nat) (ka kb : Addr → Int) (rest : List (Addr × Obj)) (p : Nat) (tp : Tok)
   (hne : ∀ q ∈ rest, q.1 ≠ l) (hit : ∀ x ∈ xs, IT rest ka kb x) (hlen : xs.length ≤ 8) (hp : p < xs.length) :
   Con w mean mg mb 63 ((l, listOf (refs xs) e) :: rest) [.ref l, .int p tp] 2
     (fun news' v => v = .none ∧ news' = (l, listOf (refs (up (kx ka kb) xs p)) e) :: rest) := by
  k_with_none
  k_with "om" => first | exact om_c0 | exact om_l8 (by with_reducible assumption) | exact om_e8 (by with_reducible assumption) (by with_reducible assumption) | exact om_e1 (by with_reducible assumption) (by with_reducible assumption) | exact om_pi (by with_reducible assumption) | exact om_pe (by with_reducible assumption) (by with_reducible assumption) | exact om_pn (by with_reducible assumption) (by with_reducible assumption) | exact om_ie (by with_reducible assumption) (by with_reducible assumption) | exact om_i1 (by with_reducible assumption) (by with_reducible assumption) | exact om_d0 | exact om_d1 | exact om_t1 | exact om_t2 | exact om_f (by with_reducible assumption) (by with_reducible assumption) | exact om_m1 (by with_reducible assumption) | exact om_m2 (by with_reducible assumption) | exact om_s1 (by with_reducible assumption) | exact om_s2 (by with_reducible assumption) | exact om_n1 (by with_reducible assumption) | exact om_n2 (by with_reducible assumption) | exact om_n3 (by with_reducible assumption) | exact om_g1 (by with_reducible assumption) (by with_reducible assumption) | exact om_g2 (by with_reducible assumption) (by with_reducible assumption) | exact om_k1 | exact om_k2 | exact om_q1 | exact om_q2 | exact om_9 (by with_reducible assumption) (by with_reducible assumption) | exact om_z (by with_reducible assumption) | exact om_hi (by with_reducible assumption) | exact om_h0 (by with_reducible assumption) | exact om_hl (by with_reducible assumption) | exact om_h1 (by with_reducible assumption) (by with_reducible assumption) | exact om_h2 (by with_reducible assumption) | exact om_ht (by with_reducible assumption) | exact om_hs (by with_reducible assumption) | exact om_hf (by with_reducible assumption) | exact om_h3 (by with_reducible assumption) (by with_reducible assumption) | exact om_h4 (by with_reducible assumption) | exact om_h5 (by with_reducible assumption) | exact om_p | exact om_2a | exact om_2b | with_reducible assumption
  unfold Con; k_fill
  intro pr ls dp un gd cn cs a ccd cl outer A₀ base h₀ L m s Q E B F X N T hk hd hu hret
  ((refine wpAny_call ?_; k_dflt ktr_enter; refine acut ?_; intro _))
  (repeat' ((fail_if_success (with_reducible show wpAny _ _ (exec (Stmt.While _ _ _ _) _) _ _ _)); first | (k_unfold; (try dsimp only)) | (k_end; wrow_close) | (with_reducible ((k_here; (with_reducible show wpAny _ _ (call (Value.ref 56) _) _ _ _); k_dflt (refine' (down_con _ _ _ _ _ _ _ _ _ _ _ _ _ _ ?ka ?kb ?kc ?kd1 ?ke) _ _ _ _ _ _ _ _ _ _ _ _ _ _ _ _ _ _ _ ?k1 ?k2 ?k3 ?k4 ?k5 ?kK ?kd ?ku ?_; (((case k1 => first | k_asm | ktn_no "the frames below"); (case k2 => first | k_asm | ktn_no "the frame"); (case k3 => first | k_asm | ktn_no "the written part"); (case k4 => first | k_asm | ktn_no "the ledger"); (case k5 => first | k_asm | ktn_no "the top"); (case kK => first | exact rfl | assumption | ktn_no "no def"); (case kd => first | ktr_room | ktn_no "the room"); (case ku => first | ktr_units | ktn_no "the units"))); (case ka => assumption); (case kb => (first | assumption | exact forall_set (by assumption) (by assumption) | exact forall_set (forall_set (by assumption) (by assumption)) (by assumption))); (case kc => (try simp only [List.length_set]); (first | k_extra "om" | omega)); (case kd1 => (first | k_extra "om" | omega)); (case ke => (try simp only [List.length_set]); (first | k_extra "om" | omega))); intro v' news' h' tk' F' N' hr'; obtain ⟨hv', hn'⟩ := hr'; subst hv'; subst hn'))) | ((with_reducible show wpAny _ _ (call (Value.builtin "len") _) _ _ _); with_reducible ((k_here; (with_reducible show wpAny _ _ (call _ [Value.ref _]) _ _ _); k_dflt (refine' refs_len ?k1 ?k2 ?k3 ?_; (case k1 => k_asm); (case k2 => k_mem); (case k3 => (first | k_extra "om" | omega)); k_whole)))) | ((with_reducible show wpAny _ _ (binaryOp .RShift (Value.int _ _) (Value.int _ _)) _ _ _); with_reducible ((k_here; k_dflt (refine' wpAny_rshift1_int ?k1 ?_; (case k1 => (first | k_extra "om" | omega)); k_whole)))) | (with_reducible ((k_here; (with_reducible show wpAny _ _ (compareOp _ (Value.ref _) (Value.ref _)) _ _ _); k_dflt (refine' item_ltP ?k1 ?k2 ?k3 ?k4 ?k5 ?_; (case k1 => k_asm); (case k2 => assumption); (case k3 => assumption); (case k4 => ((intro p hp; first | exact hp | exact List.Mem.tail _ hp | exact List.Mem.tail _ (List.Mem.tail _ hp) | exact List.Mem.tail _ (List.Mem.tail _ (List.Mem.tail _ hp))))); (case k5 => ktr_units); k_whole)))) | ((with_reducible show wpAny _ _ (setItem (Value.ref _) (Value.int _ _) _) _ _ _); with_reducible ((k_here; (with_reducible show wpAny _ _ (setItem (Value.ref _) (Value.int _ _) (Value.ref _)) _ _ _); k_dflt (refine' refs_set ?k1 ?k2 ?k3 ?k4 ?k5 ?k6 ?_; (case k1 => k_asm); (case k2 => k_asm); (case k6 => k_upd); (case k3 => (first | k_extra "om" | omega)); (case k4 => (try simp only [List.length_set]); (first | k_extra "om" | omega)); (case k5 => (try simp only [List.length_set]); (first | k_extra "om" | omega))); intro h' F' N'))) | (with_reducible ((k_here; (with_reducible show wpAny _ _ (subscriptTail _ _ (Value.ref _) (Value.int _ _)) _ _ _); k_dflt (refine' refs_itemP ?k1 ?k2 ?k3 ?k4 ?k5 ?k6 ?_ ?k7; (case k1 => k_asm); (case k2 => k_mem); (case k3 => (first | assumption | exact forall_set (by assumption) (by assumption) | exact forall_set (forall_set (by assumption) (by assumption)) (by assumption))); (case k4 => (first | k_extra "om" | omega)); (case k5 => (try simp only [List.length_set]); (first | k_extra "om" | omega)); (case k6 => (try simp only [List.length_set]); (first | k_extra "om" | omega)); (case k7 => with_unfolding_all rfl)); intro x' hP' hx' hxe'))) | ((with_reducible show wpAny _ _ (execs (_ :: _) _) _ _ _); with_reducible ((refine execs_cut ?_; intro _ _))) | ((with_reducible show wpAny _ _ (callWith _ (Value.ref _) _ _ _) _ _ _); with_reducible ((k_here; k_dflt (first | (refine' callWith_K ?k1 ?k2 ?_; (case k1 => k_asm); (case k2 => k_is); k_whole) | (refine' callWith_K0 ?k1 ?k2 ?_; (case k1 => k_in); (case k2 => k_is); k_whole))))) | ((with_reducible show wpAny _ _ (binaryOp .Mult (Value.int _ _) (Value.float _ _)) _ _ _); with_reducible ((k_here; k_dflt (refine' mulif_safe ?k1 ?_; (case k1 => (first | k_extra "om" | omega)); k_whole)))) | ((with_reducible show wpAny _ _ (binaryOp .Mult (Value.float _ _) (Value.int _ _)) _ _ _); with_reducible ((k_here; k_dflt (refine' mulfi_safe ?k1 ?_; (case k1 => (first | k_extra "om" | omega)); k_whole)))) | ((with_reducible show wpAny _ _ (binaryOp .Mod (Value.float _ _) (Value.float _ _)) _ _ _); with_reducible ((k_here; k_dflt (refine' fmod_safe ?k1 ?k2 ?_; (case k1 => with_unfolding_all rfl); (case k2 => decide +kernel); k_whole)))) | ((with_reducible show wpAny _ _ (binaryOp .Div (Value.float _ _) (Value.float _ _)) _ _ _); with_reducible ((k_here; k_dflt (refine' fdiv_safe ?k1 ?k2 ?_; (case k1 => with_unfolding_all rfl); (case k2 => decide +kernel); k_whole)))) | ((with_reducible show wpAny _ _ (binaryOp .Div (Value.int _ _) (Value.int _ _)) _ _ _); with_reducible ((k_here; k_dflt (refine' div_safe ?k1 ?k2 ?k3 ?_; (case k1 => with_unfolding_all rfl); (case k2 => (first | k_extra "om" | omega)); (case k3 => (first | k_extra "om" | omega)); k_whole)))) | ((with_reducible show wpAny _ _ (call (Value.builtin "min") _) _ _ _); with_reducible ((k_here; (with_reducible show wpAny _ _ (call (Value.builtin _) [Value.int _ _, Value.int _ _, Value.int _ _]) _ _ _); k_dflt (refine' min3_N ?k1 ?k2 ?k3 ?_; (case k1 => with_unfolding_all rfl); (case k2 => k_asm); (case k3 => k_asm); k_whole); intro h' tk' tt' F' N'; (try k_sweep)))) | ((with_reducible show wpAny _ _ (call (Value.builtin "max") _) _ _ _); with_reducible ((k_here; (with_reducible show wpAny _ _ (call (Value.builtin _) [Value.int _ _, Value.int _ _, Value.int _ _]) _ _ _); k_dflt (refine' max3_N ?k1 ?k2 ?k3 ?_; (case k1 => with_unfolding_all rfl); (case k2 => k_asm); (case k3 => k_asm); k_whole); intro h' tk' tt' F' N'; (try k_sweep)))) | walk1 | dsimp only | (leave1; walk_say "STEP leave1"; try dsimp only) | fail "no step"))
  rename Fr _ _ _ _ => F1
  rename News _ _ _ _ => N1
  obtain ⟨z, hz9⟩ : ∃ z, z = x' := ⟨_, rfl⟩
  subst hz9
  have hPz := hP'
  have hze := hxe'
  have e0 : xs[p]? = some z := by simpa using hze
  refine While_inv2L (fun n m1 news1 => ∃ (m' : Str → Option Value) (ys : List Addr) (p' f : Nat) (i' c' j' : Int) (t1' t2' t3' t4' : Tok), m1 = (fun y => if y = Str.ofString "heap" then some (.ref l) else if y = Str.ofString "startpos" then some (.int p t1') else if y = Str.ofString "newitem" then some (.ref z) else if y = Str.ofString "pos" then some (.int i' t2') else if y = Str.ofString "childpos" then some (.int c' t3') else if y = Str.ofString "endpos" then some (.int j' t4') else m' y) ∧ i' = p' ∧ c' = 2 * p' + 1 ∧ j' = xs.length ∧
      news1 = (l, listOf (refs ys) e) :: rest ∧ (∀ x ∈ ys, IT rest ka kb x) ∧ ys.length = xs.length ∧ p' < xs.length ∧ xs.length ≤ f + p' ∧ sup (kx ka kb) f ys p' = sup (kx ka kb) xs.length xs p ∧ n = xs.length - p')
    F1 N1 ⟨_, xs, p, xs.length, _, _, _, _, _, _, _, pins6 rfl rfl rfl rfl rfl rfl, rfl, rfl, rfl, rfl, hit, rfl, hp, by (first | k_extra "om" | omega), rfl, rfl⟩ ?_
  intro n m1 news1 h1 tk1 F2 N2 J W9
  obtain ⟨m', ys, p', f, i', c', j', t1', t2', t3', t4', rfl, rfl, rfl, rfl, rfl, hit', hlen', hp', hf, hs', rfl⟩ := J
  clear F1 N1
  (repeat' ((fail_if_success (with_reducible show wpAny _ _ (exec (Stmt.While _ _ _ _) _) _ _ _)); first | (k_unfold; (try dsimp only)) | (k_end; wrow_close) | (with_reducible ((k_here; (with_reducible show wpAny _ _ (call (Value.ref 56) _) _ _ _); k_dflt (refine' (down_con _ _ _ _ _ _ _ _ _ _ _ _ _ _ ?ka ?kb ?kc ?kd1 ?ke) _ _ _ _ _ _ _ _ _ _ _ _ _ _ _ _ _ _ _ ?k1 ?k2 ?k3 ?k4 ?k5 ?kK ?kd ?ku ?_; (((case k1 => first | k_asm | ktn_no "the frames below"); (case k2 => first | k_asm | ktn_no "the frame"); (case k3 => first | k_asm | ktn_no "the written part"); (case k4 => first | k_asm | ktn_no "the ledger"); (case k5 => first | k_asm | ktn_no "the top"); (case kK => first | exact rfl | assumption | ktn_no "no def"); (case kd => first | ktr_room | ktn_no "the room"); (case ku => first | ktr_units | ktn_no "the units"))); (case ka => assumption); (case kb => (first | assumption | exact forall_set (by assumption) (by assumption) | exact forall_set (forall_set (by assumption) (by assumption)) (by assumption))); (case kc => (try simp only [List.length_set]); (first | k_extra "om" | omega)); (case kd1 => (first | k_extra "om" | omega)); (case ke => (try simp only [List.length_set]); (first | k_extra "om" | omega))); intro v' news' h' tk' F' N' hr'; obtain ⟨hv', hn'⟩ := hr'; subst hv'; subst hn'))) | ((with_reducible show wpAny _ _ (call (Value.builtin "len") _) _ _ _); with_reducible ((k_here; (with_reducible show wpAny _ _ (call _ [Value.ref _]) _ _ _); k_dflt (refine' refs_len ?k1 ?k2 ?k3 ?_; (case k1 => k_asm); (case k2 => k_mem); (case k3 => (first | k_extra "om" | omega)); k_whole)))) | ((with_reducible show wpAny _ _ (binaryOp .RShift (Value.int _ _) (Value.int _ _)) _ _ _); with_reducible ((k_here; k_dflt (refine' wpAny_rshift1_int ?k1 ?_; (case k1 => (first | k_extra "om" | omega)); k_whole)))) | (with_reducible ((k_here; (with_reducible show wpAny _ _ (compareOp _ (Value.ref _) (Value.ref _)) _ _ _); k_dflt (refine' item_ltP ?k1 ?k2 ?k3 ?k4 ?k5 ?_; (case k1 => k_asm); (case k2 => assumption); (case k3 => assumption); (case k4 => ((intro p hp; first | exact hp | exact List.Mem.tail _ hp | exact List.Mem.tail _ (List.Mem.tail _ hp) | exact List.Mem.tail _ (List.Mem.tail _ (List.Mem.tail _ hp))))); (case k5 => ktr_units); k_whole)))) | ((with_reducible show wpAny _ _ (setItem (Value.ref _) (Value.int _ _) _) _ _ _); with_reducible ((k_here; (with_reducible show wpAny _ _ (setItem (Value.ref _) (Value.int _ _) (Value.ref _)) _ _ _); k_dflt (refine' refs_set ?k1 ?k2 ?k3 ?k4 ?k5 ?k6 ?_; (case k1 => k_asm); (case k2 => k_asm); (case k6 => k_upd); (case k3 => (first | k_extra "om" | omega)); (case k4 => (try simp only [List.length_set]); (first | k_extra "om" | omega)); (case k5 => (try simp only [List.length_set]); (first | k_extra "om" | omega))); intro h' F' N'))) | (with_reducible ((k_here; (with_reducible show wpAny _ _ (subscriptTail _ _ (Value.ref _) (Value.int _ _)) _ _ _); k_dflt (refine' refs_itemP ?k1 ?k2 ?k3 ?k4 ?k5 ?k6 ?_ ?k7; (case k1 => k_asm); (case k2 => k_mem); (case k3 => (first | assumption | exact forall_set (by assumption) (by assumption) | exact forall_set (forall_set (by assumption) (by assumption)) (by assumption))); (case k4 => (first | k_extra "om" | omega)); (case k5 => (try simp only [List.length_set]); (first | k_extra "om" | omega)); (case k6 => (try simp only [List.length_set]); (first | k_extra "om" | omega)); (case k7 => with_unfolding_all rfl)); intro x' hP' hx' hxe'))) | ((with_reducible show wpAny _ _ (execs (_ :: _) _) _ _ _); with_reducible ((refine execs_cut ?_; intro _ _))) | ((with_reducible show wpAny _ _ (callWith _ (Value.ref _) _ _ _) _ _ _); with_reducible ((k_here; k_dflt (first | (refine' callWith_K ?k1 ?k2 ?_; (case k1 => k_asm); (case k2 => k_is); k_whole) | (refine' callWith_K0 ?k1 ?k2 ?_; (case k1 => k_in); (case k2 => k_is); k_whole))))) | ((with_reducible show wpAny _ _ (binaryOp .Mult (Value.int _ _) (Value.float _ _)) _ _ _); with_reducible ((k_here; k_dflt (refine' mulif_safe ?k1 ?_; (case k1 => (first | k_extra "om" | omega)); k_whole)))) | ((with_reducible show wpAny _ _ (binaryOp .Mult (Value.float _ _) (Value.int _ _)) _ _ _); with_reducible ((k_here; k_dflt (refine' mulfi_safe ?k1 ?_; (case k1 => (first | k_extra "om" | omega)); k_whole)))) | ((with_reducible show wpAny _ _ (binaryOp .Mod (Value.float _ _) (Value.float _ _)) _ _ _); with_reducible ((k_here; k_dflt (refine' fmod_safe ?k1 ?k2 ?_; (case k1 => with_unfolding_all rfl); (case k2 => decide +kernel); k_whole)))) | ((with_reducible show wpAny _ _ (binaryOp .Div (Value.float _ _) (Value.float _ _)) _ _ _); with_reducible ((k_here; k_dflt (refine' fdiv_safe ?k1 ?k2 ?_; (case k1 => with_unfolding_all rfl); (case k2 => decide +kernel); k_whole)))) | ((with_reducible show wpAny _ _ (binaryOp .Div (Value.int _ _) (Value.int _ _)) _ _ _); with_reducible ((k_here; k_dflt (refine' div_safe ?k1 ?k2 ?k3 ?_; (case k1 => with_unfolding_all rfl); (case k2 => (first | k_extra "om" | omega)); (case k3 => (first | k_extra "om" | omega)); k_whole)))) | ((with_reducible show wpAny _ _ (call (Value.builtin "min") _) _ _ _); with_reducible ((k_here; (with_reducible show wpAny _ _ (call (Value.builtin _) [Value.int _ _, Value.int _ _, Value.int _ _]) _ _ _); k_dflt (refine' min3_N ?k1 ?k2 ?k3 ?_; (case k1 => with_unfolding_all rfl); (case k2 => k_asm); (case k3 => k_asm); k_whole); intro h' tk' tt' F' N'; (try k_sweep)))) | ((with_reducible show wpAny _ _ (call (Value.builtin "max") _) _ _ _); with_reducible ((k_here; (with_reducible show wpAny _ _ (call (Value.builtin _) [Value.int _ _, Value.int _ _, Value.int _ _]) _ _ _); k_dflt (refine' max3_N ?k1 ?k2 ?k3 ?_; (case k1 => with_unfolding_all rfl); (case k2 => k_asm); (case k3 => k_asm); k_whole); intro h' tk' tt' F' N'; (try k_sweep)))) | walk1 | dsimp only | (leave1; walk_say "STEP leave1"; try dsimp only) | fail "no step"))
  · rename_i q1 _ _ he1 q2 _ _ he2 hlt _ _ _ _ _ _ _ _ F3 N3
    obtain ⟨q, hq9⟩ : ∃ q, q = x' := ⟨_, rfl⟩
    subst hq9
    have hPq := hP'
    have he := hxe'
    rw [show (2 * (p' : Int) + 1).toNat = 2 * p' + 1 from by (first | k_extra "om" | omega)] at he1 he
    rw [show (2 * (p' : Int) + 1 + 1).toNat = 2 * p' + 1 + 1 from by (first | k_extra "om" | omega)] at he2
    obtain ⟨f, rfl⟩ : ∃ g, f = g + 1 := ⟨f - 1, by (first | k_extra "om" | omega)⟩
    rw [sup_go (kid_a he1 he2 hlt) he] at hs'
    exact ⟨_, _, _, _, xs.length - (2 * p' + 1), rfl, F3, N3, by (first | k_extra "om" | omega), _, ys.set p' q, 2 * p' + 1, f, _, _, _, _, _, _, _, pins6 rfl rfl rfl rfl rfl rfl, by (first | k_extra "om" | omega), by (first | k_extra "om" | omega), rfl, rfl, forall_set hit' hPq, by simp [hlen'], by (first | k_extra "om" | omega), by (first | k_extra "om" | omega), hs', rfl⟩
  · rename_i q1 _ _ he1 q2 _ _ he2 hlt _ _ _ _ _ _ _ _ _ _ _ _ F3 N3
    obtain ⟨q, hq9⟩ : ∃ q, q = x' := ⟨_, rfl⟩
    subst hq9
    have hPq := hP'
    have he := hxe'
    rw [show (2 * (p' : Int) + 1).toNat = 2 * p' + 1 from by (first | k_extra "om" | omega)] at he1
    rw [show (2 * (p' : Int) + 1 + 1).toNat = 2 * p' + 1 + 1 from by (first | k_extra "om" | omega)] at he2 he
    obtain ⟨f, rfl⟩ : ∃ g, f = g + 1 := ⟨f - 1, by (first | k_extra "om" | omega)⟩
    rw [sup_go (kid_b he1 he2 hlt) he] at hs'
    exact ⟨_, _, _, _, xs.length - (2 * p' + 1 + 1), rfl, F3, N3, by (first | k_extra "om" | omega), _, ys.set p' q, 2 * p' + 1 + 1, f, _, _, _, _, _, _, _, pins6 rfl rfl rfl rfl rfl rfl, by (first | k_extra "om" | omega), by (first | k_extra "om" | omega), rfl, rfl, forall_set hit' hPq, by simp [hlen'], by (first | k_extra "om" | omega), by (first | k_extra "om" | omega), hs', rfl⟩
  · rename_i hb _ _ _ _ _ _ _ _ F3 N3
    obtain ⟨q, hq9⟩ : ∃ q, q = x' := ⟨_, rfl⟩
    subst hq9
    have hPq := hP'
    have he := hxe'
    rw [show (2 * (p' : Int) + 1).toNat = 2 * p' + 1 from by (first | k_extra "om" | omega)] at he
    obtain ⟨f, rfl⟩ : ∃ g, f = g + 1 := ⟨f - 1, by (first | k_extra "om" | omega)⟩
    rw [sup_go (kid_c (by (first | k_extra "om" | omega))) he] at hs'
    exact ⟨_, _, _, _, xs.length - (2 * p' + 1), rfl, F3, N3, by (first | k_extra "om" | omega), _, ys.set p' q, 2 * p' + 1, f, _, _, _, _, _, _, _, pins6 rfl rfl rfl rfl rfl rfl, by (first | k_extra "om" | omega), by (first | k_extra "om" | omega), rfl, rfl, forall_set hit' hPq, by simp [hlen'], by (first | k_extra "om" | omega), by (first | k_extra "om" | omega), hs', rfl⟩
  · refine hret _ _ _ _ (by k_asm) (by k_asm) ⟨rfl, ?_⟩
    rw [sup_stop (by (first | k_extra "om" | omega))] at hs'
    unfold up
    rw [e0, ← hs']; rfl
end

section
section
variable {prog : Program} {w : World} {A : Around} {E : Value → Shared → Prop} {s : Shared} {h₀ : Heap} {L D : Addr} {m : Str → Option Value} {news news' : List (Addr × Obj)} {n : Nat} {xs : List Addr}
theorem refs_append {x : Addr} {Q : Value → Shared → Prop} (F : Fr h₀ L s.heap m) (N : News h₀ L s.heap news) (hl : xs.length ≤ 1000) (U : Upd D (listOf (refs xs) n) (listOf (refs (xs ++ [x])) (n + 1)) news news')
    (h : ∀ h', Fr h₀ L h' m → News h₀ L h' news' → Q .none { s with heap := h' }) : wpAny (model prog w) A (call (.builtin "list.append") [.ref D, .ref x]) Q E s := by
  have e : (refs xs).push (.ref x) = refs (xs ++ [x]) := by simp [refs]
  refine append_K (its := refs xs) (x := .ref x) F N (by rw [e]; exact U) h ?_
  simp only [refs, List.size_toArray, List.length_map, sizeLine]; omega
theorem kl_last_snoc : ∀ (p : List Value) (y : Value), kl_last (p ++ [y]) = some (p, y)
  | [], _ => rfl
  | [a], y => by simp [kl_last]
  | a :: b :: r, y => by
    have q := kl_last_snoc (b :: r) y
    simp only [List.cons_append] at q ⊢
    unfold kl_last
    rw [q]
theorem refs_pop {z : Addr} {Q : Value → Shared → Prop} (F : Fr h₀ L s.heap m) (N : News h₀ L s.heap news) (hl : xs.length ≤ 1000) (U : Upd D (listOf (refs (xs ++ [z])) n) (listOf (refs xs) (n + 1)) news news')
    (h : ∀ h', Fr h₀ L h' m → News h₀ L h' news' → Q (.ref z) { s with heap := h' }) : wpAny (model prog w) A (call (.builtin "list.pop") [.ref D]) Q E s := by
  refine kl_pop (its := refs (xs ++ [z])) (p := xs.map Value.ref) (y := .ref z) F N ?_ U ?_ h
  · simp only [List.map_append, List.map_cons, List.map_nil]
    exact kl_last_snoc _ _
  · simp only [List.length_map, List.length_append, List.length_cons, List.length_nil, sizeLine]; omega
end

theorem refs_truthy {prog : Program} {w : World} {A : Around} {E : Value → Shared → Prop} {s : Shared} {h₀ : Heap} {L D : Addr} {news : List (Addr × Obj)} {n : Nat} {xs : List Addr} {Q : Bool → Shared → Prop} (N : News h₀ L s.heap news) (hm : (D, listOf (refs xs) n) ∈ news) (hl : xs.length ≤ 1000)
    (h : ∀ tk, Q (decide (0 < xs.length)) { s with toks := tk }) : wpAny (model prog w) A (truthy (.ref D)) Q E s := by
  have hL : s.heap.IsList D (refs xs) := PySem.IsL.isList (n := n) (N.get hm)
  have e : (refs xs).size = xs.length := by simp [refs]
  refine wpAny_truthy_list hL (by rw [e]; omega) ?_
  have e2 : (!(refs xs).isEmpty) = decide (0 < xs.length) := by
    cases xs with
    | nil => rfl
    | cons a r => simp [refs]
  rw [e2]; exact h _

theorem down_conI (w : World) (mean : ExcName → Option Value) (mg mb : Str → Option Value) (l : Addr) (xs : List Addr) (e : Nat) (ka kb : Addr → Int) (rest : List (Addr × Obj)) (st p : Int) (ts tp : Tok)
   (hne : ∀ q ∈ rest, q.1 ≠ l) (hit : ∀ x ∈ xs, IT rest ka kb x) (hlen : xs.length ≤ 8) (hst : 0 ≤ st ∧ st < 9) (hp : 0 ≤ p ∧ p < xs.length) :
   Con w mean mg mb 56 ((l, listOf (refs xs) e) :: rest) [.ref l, .int st ts, .int p tp] 1
     (fun news' v => v = .none ∧ news' = (l, listOf (refs (down (kx ka kb) xs st.toNat p.toNat)) e) :: rest) := by
  have q := down_con w mean mg mb l xs e ka kb rest st.toNat p.toNat ts tp hne hit hlen (by omega) (by omega)
  rw [show ((st.toNat : Nat) : Int) = st from by omega, show ((p.toNat : Nat) : Int) = p from by omega] at q
  exact q
theorem up_conI (w : World) (mean : ExcName → Option Value) (mg mb : Str → Option Value) (l : Addr) (xs : List Addr) (e : Nat) (ka kb : Addr → Int) (rest : List (Addr × Obj)) (p : Int) (tp : Tok)
   (hne : ∀ q ∈ rest, q.1 ≠ l) (hit : ∀ x ∈ xs, IT rest ka kb x) (hlen : xs.length ≤ 8) (hp : 0 ≤ p ∧ p < xs.length) :
   Con w mean mg mb 63 ((l, listOf (refs xs) e) :: rest) [.ref l, .int p tp] 2
     (fun news' v => v = .none ∧ news' = (l, listOf (refs (up (kx ka kb) xs p.toNat)) e) :: rest) := by
  have q := up_con w mean mg mb l xs e ka kb rest p.toNat tp hne hit hlen (by omega)
  rw [show ((p.toNat : Nat) : Int) = p from by omega] at q
  exact q

theorem fdiv_is {prog : Program} {w : World} {A : Around} {E : Value → Shared → Prop} {s : Shared} {x y m : Int} {t u : Tok} {Q : Value → Shared → Prop} (hy : y ≠ 0) (hm : Int.fdiv x y = m) (hs : -1000000 < y ∧ y < 1000000)
    (h : Q (.int m s.toks) { s with toks := s.toks + 1 }) : wpAny (model prog w) A (binaryOp .FloorDiv (.int x t) (.int y u)) Q E s := floordiv_int hy (hm ▸ h) (Or.inl (PyProof.noPylong_small (by omega)))
end

section
theorem entry_ri_iter : entryFor table "range_iterator.__iter__" = some Builtin.«dict_keyiterator.__iter__» :=
  entryFor_alias (id' := "dict_keyiterator.__iter__") (by kernel_rfl) (by first | rfl | decide +kernel | (unfold String.splitOn; simp +decide [String.splitOnAux])) (by decide +kernel) (by kernel_rfl)
noncomputable abbrev rangeO (a b c : Int) (t u v : Tok) : Obj := { cls := .type "range", data := .fields #[.int a t, .int b u, .int c v] }
noncomputable abbrev riO (x left step : Int) : Obj := { cls := .type "range_iterator", data := .fields #[rawInt x, rawInt left, rawInt step] }
section
variable {prog : Program} {w : World} {A : Around} {E : Value → Shared → Prop} {s : Shared} {h₀ : Heap} {L D : Addr} {m : Str → Option Value} {news news' : List (Addr × Obj)}
theorem range_N {n : Int} {t : Tok} {Q : Value → Shared → Prop} (F : Fr h₀ L s.heap m) (N : News h₀ L s.heap news)
    (h : ∀ D h' tk t1 t2 t3, Fr h₀ L h' m → News h₀ L h' ((D, rangeO 0 n 1 t1 t2 t3) :: news) → (∀ p ∈ news, p.1 < D) → Q (.ref D) { s with heap := h', toks := tk }) :
    wpAny (model prog w) A (call (.type "range") [.int n t]) Q E s :=
  call_range_1 (h _ _ _ _ _ _ (F.push _) (N.push F _) fun p hp => Heap.lt_size (N p hp).1)
theorem call_range_rev {r : Addr} {a b : Int} {t u v : Tok} {Q : Value → Shared → Prop} (hr : IsRange s.heap r a b 1 t u v) (ha : -1000 < a ∧ a ≤ b ∧ b < 1000)
    (h : Q (.ref s.heap.objs.size) { s with heap := s.heap.push (riO (a + (b - a - 1)) (b - a) (-1)) }) : wpAny (model prog w) A (call (.builtin "range.__reversed__") [.ref r]) Q E s := by
  have hT : s.TypeIs (.ref r) "range" := ⟨_, hr, rfl⟩
  refine wpAny_call_entry F.slot_range_reversed hT F.entry_range_reversed ?_ (F.args_range_reversed_1 _)
  unfold Builtin.«range.__reversed__»
  refine wpAny_bind (wpAny_of_eq (a := Value.ref r) rfl ?_)
  have hz : Builtin.Range.rangeSize a b 1 = b - a := by unfold Builtin.Range.rangeSize; (repeat' split) <;> omega
  have ff : ∀ i : Int, -100000 < i → i < 100000 → Builtin.Range.rangeFitsLong i = true := by
    intro i h1 h2; unfold Builtin.Range.rangeFitsLong; simp only [Bool.and_eq_true, decide_eq_true_eq]; omega
  have e : Builtin.Range.rangeFields (.ref r) = (do
      match ← asInt? (← field (.ref r) 0), ← asInt? (← field (.ref r) 1), ← asInt? (← field (.ref r) 2) with
      | some a, some b, some c => pure (a, b, c)
      | _, _, _ => unsupported "internal:range-parts") := rfl
  refine wpAny_bind ?_
  rw [e]
  refine wpAny_bind (wpAny_field hr rfl (x := .int a t) rfl ?_)
  refine wpAny_bind (wpAny_of_eq (a := some a) rfl ?_)
  refine wpAny_bind (wpAny_field hr rfl (x := .int b u) rfl ?_)
  refine wpAny_bind (wpAny_of_eq (a := some b) rfl ?_)
  refine wpAny_bind (wpAny_field hr rfl (x := .int 1 v) rfl ?_)
  refine wpAny_bind (wpAny_of_eq (a := some 1) rfl ?_)
  refine wpAny_pure ?_
  dsimp only
  rw [hz, ff a (by omega) (by omega), ff b (by omega) (by omega), ff 1 (by omega) (by omega), ff (-1) (by omega) (by omega), ff (a - 1) (by omega) (by omega), ff (b - a) (by omega) (by omega)]
  simp only [Bool.and_self, Bool.not_true, Bool.false_eq_true, if_false, if_true, Int.mul_one]
  exact wpAny_bind (wpAny_newObj_type (wpAny_pure ⟨_, rfl, h⟩))
theorem code_reversed_range {r : Addr} {a b : Int} {t u v : Tok} {Q₁ : Value → Shared → Prop} (hr : IsRange s.heap r a b 1 t u v) (ha : -1000 < a ∧ a ≤ b ∧ b < 1000)
    (h : Q₁ (.ref s.heap.objs.size) { s with heap := s.heap.push (riO (a + (b - a - 1)) (b - a) (-1)) }) :
    codeAny (model prog w) A (.call (.builtin "reversed.__new__") ⟨[.type "reversed", .ref r], []⟩) (wants Q₁ E) s := by
  have hT : s.TypeIs (.ref r) "range" := ⟨_, hr, rfl⟩
  refine codeAny_of_tree ?_
  show wpAny _ A.in1 (do checkBuiltinCall "reversed.__new__" ⟨[.type "reversed", .ref r], []⟩; again (.builtin "reversed.__new__" ⟨[.type "reversed", .ref r], []⟩)) _ _ s
  refine wpAny_bind (wpAny_of_eq (F.newCall_reversed_1 _) (wpAny_pure ⟨plainId_quiet F.plain_reversed_new _, codeAny_builtin F.entry_reversed_new ?_⟩))
  rw [Around.under_plainId F.plain_reversed_new _]
  unfold Builtin.«reversed.__new__»
  refine wpAny_bind (wpAny_of_eq (newClass_reversed _) ?_)
  try dsimp only
  refine wpAny_bind (wpAny_of_eq (a := ()) (by first | rfl | kernel_rfl) ?_)
  refine wpAny_bind (wpAny_of_eq (a := ()) (by first | rfl | kernel_rfl) ?_)
  try dsimp only
  refine wpAny_bind (wpAny_specialOf hT F.slot_range_reversed.lookup ?_)
  try dsimp only
  refine wpAny_bind (wpAny_of_eq (F.slot_range_reversed.bind _) ?_)
  try dsimp only
  first
  | rw [if_neg (show ¬ ((Value.builtin "range.__reversed__" == Value.none) = true) from Bool.false_ne_true)]
  | (show wpAny _ _ (if (Value.builtin "range.__reversed__" == Value.none) = true then _ else _) _ _ _; rw [if_neg (show ¬ ((Value.builtin "range.__reversed__" == Value.none) = true) from Bool.false_ne_true)])
  refine wpAny_bind (wpAny_rule ?_)
  refine wpAny_bind (m := runValue (.call (.builtin "range.__reversed__") ⟨[.ref r], []⟩)) (show wpAny _ _ (call (.builtin "range.__reversed__") [.ref r]) _ _ _ from call_range_rev hr ha ?_)
  first
  | exact wpAny_pure h
  | exact wpAny_bind (wpAny_pure (wpAny_pure h))
theorem sub_ri_reversed : isSubtype (.type "range_iterator") (.type "reversed") = pure false := by rw [isSubtype_type]; kernel_rfl
theorem rev_N {r : Addr} {a b : Int} {t u v : Tok} {Q : Value → Shared → Prop} (F₁ : Fr h₀ L s.heap m) (N : News h₀ L s.heap news) (hm : (r, rangeO a b 1 t u v) ∈ news) (ha : -1000 < a ∧ a ≤ b ∧ b < 1000)
    (h : ∀ D h', Fr h₀ L h' m → News h₀ L h' ((D, riO (a + (b - a - 1)) (b - a) (-1)) :: news) → (∀ p ∈ news, p.1 < D) → Q (.ref D) { s with heap := h' }) :
    wpAny (model prog w) A (call (.type "reversed") [.ref r]) Q E s := by
  have hr : IsRange s.heap r a b 1 t u v := N.get hm
  refine callType_other (U := "range_iterator") (Q₁ := fun obj s₁ => obj = .ref s.heap.objs.size ∧ s₁ = { s with heap := s.heap.push (riO (a + (b - a - 1)) (b - a) (-1)) }) (by decide +kernel) F.create_reversed ⟨_, _, F.mro_reversed⟩ F.made_reversed sub_ri_reversed (F.typeCall_reversed_1 _) (code_reversed_range hr ha ⟨rfl, rfl⟩) ?_
  rintro obj s₁ ⟨rfl, rfl⟩
  exact ⟨⟨_, Heap.get?_push_size _ rfl, rfl⟩, h _ _ (F₁.push _) (N.push F₁ _) fun p hp => Heap.lt_size (N p hp).1⟩
theorem iter_ri {it : Addr} {x left step : Int} {Q : Value → Shared → Prop} (hit : IsRangeIter s.heap it x left step) (h : Q (.ref it) s) : wpAny (model prog w) A (pyIter (.ref it)) Q E s := by
  have hT : s.TypeIs (.ref it) "range_iterator" := ⟨_, hit, rfl⟩
  refine wpAny_pyIter_slot hT F.slot_range_iterator_iter (wpAny_call_entry F.slot_range_iterator_iter hT entry_ri_iter ?_ (F.args_range_iterator_iter_1 _))
  show wpAny _ _ (ret (.ref it)) _ _ s
  exact wpAny_pure ⟨_, rfl, "range_iterator", _, hT, F.slot_range_iterator_next.lookup, h⟩
theorem next_ri {it : Addr} {x left step : Int} {Q : Option Value → Shared → Prop} (F : Fr h₀ L s.heap m) (N : News h₀ L s.heap ((it, riO x left step) :: news)) (hne : ∀ p ∈ news, p.1 ≠ it) (hl : 0 < left)
    (h : ∀ h', Fr h₀ L h' m → News h₀ L h' ((it, riO (x + step) (left - 1) step) :: news) → Q (some (.int x s.toks)) { s with heap := h', toks := s.toks + 1 }) :
    wpAny (model prog w) A (pyNext (.ref it)) Q E s := by
  have z := N (it, riO x left step) (.head _)
  refine wpAny_pyNext_range_item z.1 hl fun h' hi hs => h h' (F.change hs z.2.1 z.2.2) ?_
  intro p hp
  rcases List.mem_cons.mp hp with rfl | hp
  · exact ⟨hi, z.2⟩
  · exact ⟨(hs.2 _ (hne p hp)).trans (N p (.tail _ hp)).1, (N p (.tail _ hp)).2⟩
theorem next_ri_end {it : Addr} {x left step : Int} {Q : Option Value → Shared → Prop} (hh : A.handled = none) (F : Fr h₀ L s.heap m) (N : News h₀ L s.heap ((it, riO x left step) :: news)) (hne : ∀ p ∈ news, p.1 ≠ it) (hl : left ≤ 0)
    (h : ∀ h', Fr h₀ L h' m → News h₀ L h' news → Q none { s with heap := h' }) : wpAny (model prog w) A (pyNext (.ref it)) Q E s := by
  have z := N (it, riO x left step) (.head _)
  refine wpAny_pyNext_range_end hh z.1 hl fun h' hs => h h' ?_ ?_
  · exact LCg.fr_but F (fun b o hb e => hs b o (by simpa using hb) e) (Ne.symm z.2.1) z.2.2
  · intro p hp
    exact ⟨hs _ _ (hne p hp) (N p (.tail _ hp)).1, (N p (.tail _ hp)).2⟩
end

section
variable {prog : Program} {w : World} {A : Around} {E : Value → Shared → Prop} {Q : Flow → Shared → Prop} {s : Shared} {env : Env} {h₀ : Heap} {L : Addr}
/-- a for's end, as a while's -/
theorem for_own {target : Expr} {body : List Stmt} {it : Value} {m : Str → Option Value} {news : List (Addr × Obj)} (J : Nat → (Str → Option Value) → List (Addr × Obj) → Prop) {n₀ : Nat}
    (F : Fr h₀ L s.heap m) (N : News h₀ L s.heap news) (hJ : J n₀ m news)
    (turn : ∀ n m₁ news₁ h₁ tk₁, Fr h₀ L h₁ m₁ → News h₀ L h₁ news₁ → J n m₁ news₁ → let W : Flow → Shared → Prop := WhileStep2 h₀ L s J Q n
      wpAny (model prog w) A (pyNext it) (fun r s₂ => match r with
        | none => Q .next s₂
        | some v => wpAny (model prog w) A (assign target env v) (fun _ s₃ => wpAny (model prog w) A (execs body env) W E s₃) E s₂) E { s with heap := h₁, toks := tk₁ })
    (hE : PassesOwn (model prog w) A env E) (ht : ∀ v, letOwnedTupleGo target it v = pure ()) :
    codeAny (model prog w) A (.forLoop target it body [] env) (fun r s' => match r with | .ok f => Q f s' | .error e => cameBackBy (model prog w) A env E e s') s := by
  refine codeAny_forLoop (fun n s' => ∃ h₁ tk₁ m₁ news₁, s' = { s with heap := h₁, toks := tk₁ } ∧ Fr h₀ L h₁ m₁ ∧ News h₀ L h₁ news₁ ∧ J n m₁ news₁) ?_ n₀ ⟨s.heap, s.toks, m, news, rfl, F, N, hJ⟩ ht
  rintro n s' ⟨h₁, tk₁, m₁, news₁, rfl, F₁, N₁, J₁⟩
  refine wpAny_mono (turn n m₁ news₁ h₁ tk₁ F₁ N₁ J₁) (fun r s₂ h₂ => ?_) hE
  cases r with
  | none => exact wpAny_execs_nil h₂
  | some v =>
    refine wpAny_mono h₂ (fun _ s₃ h₃ => wpAny_mono h₃ (fun f s₄ h₄ => ?_) hE) hE
    cases f with
    | next =>
      obtain ⟨h', tk, m₂, news₂, n', rfl, F₂, N₂, hn, J₂⟩ := h₄
      exact ⟨n', hn, h', tk, m₂, news₂, rfl, F₂, N₂, J₂⟩
    | cont =>
      obtain ⟨h', tk, m₂, news₂, n', rfl, F₂, N₂, hn, J₂⟩ := h₄
      exact ⟨n', hn, h', tk, m₂, news₂, rfl, F₂, N₂, J₂⟩
    | brk => exact h₄
    | ret v => exact h₄
end

theorem swap2 {h₀ h : Heap} {L : Addr} {p q : Addr × Obj} {news : List (Addr × Obj)} (N : News h₀ L h (p :: q :: news)) : News h₀ L h (q :: p :: news) := by
  intro x hx
  rcases List.mem_cons.mp hx with rfl | hx
  · exact N _ (.tail _ (.head _))
  · rcases List.mem_cons.mp hx with rfl | hx
    · exact N _ (.head _)
    · exact N _ (.tail _ (.tail _ hx))
theorem pins1 {m : Str → Option Value} {a : Str} {va : Value} (ha : m a = some va) : m = fun y => if y = a then some va else m y := pin ha
theorem pins2 {m : Str → Option Value} {a b : Str} {va vb : Value} (ha : m a = some va) (hb : m b = some vb) :
    m = fun y => if y = a then some va else if y = b then some vb else m y := by
  funext y
  by_cases e1 : y = a
  · rw [if_pos e1, e1]; exact ha
  · rw [if_neg e1]
    by_cases e2 : y = b
    · rw [if_pos e2, e2]; exact hb
    · rw [if_neg e2]

theorem ne_cons {p : Addr × Obj} {rest : List (Addr × Obj)} {I : Addr} (h1 : p.1 ≠ I) (h2 : ∀ q ∈ rest, q.1 ≠ I) : ∀ q ∈ p :: rest, q.1 ≠ I := by
  intro q hq
  rcases List.mem_cons.mp hq with rfl | hq
  · exact h1
  · exact h2 q hq
theorem ne_of_AllLt {rest : List (Addr × Obj)} {I : Addr} (h : AllLt I rest) : ∀ q ∈ rest, q.1 ≠ I := fun q hq => Nat.ne_of_lt (ktn_ltOf h q hq)

theorem ne_lt_all {rest : List (Addr × Obj)} {I d : Addr} (h : ∀ p ∈ rest, p.1 < I) (hd : I ≤ d) : ∀ q ∈ rest, q.1 ≠ d := fun q hq => Nat.ne_of_lt (Nat.lt_of_lt_of_le (h q hq) hd)
end

section
/-- a call's contract where a code table is laid aside -/
noncomputable def ConC (w : World) (mean : ExcName → Option Value) (mg mb : Str → Option Value) (f : Addr) (news : List (Addr × Obj)) (vs : List Value) (cost : Nat)
   (Ret : List (Addr × Obj) → Value → Prop) : Prop :=
  ∀ (pr : Program) (ls : List Str) (dp un : Nat) (gd : Option (List Code)) (cn : Str) (cs : Scope) (a : Addr) (ccd : Value) (cl : List (Str × Addr)) (outer : List Env) (A₀ : Around) (base h₀ : Heap) (L : Addr) (m : Str → Option Value) (s : Shared) (Q E : Value → Shared → Prop),
    CodeHd base 111 107 →
    Below A₀ base outer h₀ → Fr h₀ L s.heap m → (hd.heap_1 w.params).In h₀ → News h₀ L s.heap news → Top pr ls mean mg mb h₀ → cs.kind = .function →
    Rm dp cost → Un un cost →
    (∀ (v : Value) (news' : List (Addr × Obj)) (h' : Heap) (tk' : Nat), Fr h₀ L h' m → News h₀ L h' news' → Ret news' v → Q v { s with heap := h', toks := tk' }) →
      wpAny (model PySem.Challenge.rw_pg0139_01.row.prog w) (ktrTop dp un gd cn cs L a ccd cl outer) (call (.ref f) vs) Q E s
/-- the same of the call's code -/
noncomputable def ConK (w : World) (mean : ExcName → Option Value) (mg mb : Str → Option Value) (f : Addr) (news : List (Addr × Obj)) (vs : List Value) (cost : Nat)
   (Ret : List (Addr × Obj) → Value → Prop) : Prop :=
  ∀ (pr : Program) (ls : List Str) (dp un : Nat) (gd : Option (List Code)) (cn : Str) (cs : Scope) (a : Addr) (ccd : Value) (cl : List (Str × Addr)) (outer : List Env) (A₀ : Around) (base h₀ : Heap) (L : Addr) (m : Str → Option Value) (s : Shared) (Q E : Value → Shared → Prop),
    CodeHd base 111 107 →
    Below A₀ base outer h₀ → Fr h₀ L s.heap m → (hd.heap_1 w.params).In h₀ → News h₀ L s.heap news → Top pr ls mean mg mb h₀ → cs.kind = .function →
    Rm dp cost → Un un cost →
    (∀ (v : Value) (news' : List (Addr × Obj)) (h' : Heap) (tk' : Nat), Fr h₀ L h' m → News h₀ L h' news' → Ret news' v → Q v { s with heap := h', toks := tk' }) →
      codeAny (model PySem.Challenge.rw_pg0139_01.row.prog w) (ktrTop dp un gd cn cs L a ccd cl outer) (.call (.ref f) ⟨vs, []⟩) (fun r s' => match r with | .ok (.ret v) => Q v s' | .ok _ => False | .error e => E e s') s
theorem ConK.c {w : World} {mean : ExcName → Option Value} {mg mb : Str → Option Value} {f : Addr} {news : List (Addr × Obj)} {vs : List Value} {cost : Nat} {Ret : List (Addr × Obj) → Value → Prop} (h : ConK w mean mg mb f news vs cost Ret) : ConC w mean mg mb f news vs cost Ret :=
  fun pr ls dp un gd cn cs a ccd cl outer A₀ base h₀ L m s Q E k0 k1 k2 k3 k4 k5 kK kd ku hq => wpAny_call (h pr ls dp un gd cn cs a ccd cl outer A₀ base h₀ L m s Q E k0 k1 k2 k3 k4 k5 kK kd ku hq)
end

section
theorem fn_set : typeLookup (.type "function") "__setattr__" = pure (some (.builtin "object.__setattr__")) := by kernel_rfl
theorem fn_read : typeLookup (.type "function") "read" = pure none := by kernel_rfl
theorem fn_mro : mroOf (.type "function") = pure [.type "function", .type "object"] := by kernel_rfl
theorem fn_sub : isSubtype (.type "function") (.type "object") = pure true := by kernel_rfl
theorem fn_refuse (self : Value) : refuseLoop self "__setattr__" [.type "function", .type "object"] = pure () := by kernel_rfl
theorem fn_has : typeHasDict (.type "function") = true := by kernel_rfl
theorem fn_fin : finalisedInACycleAlone "function" = false := by kernel_rfl

section
variable {prog : Program} {w : World} {A : Around} {E : Value → Shared → Prop} {s : Shared} {h₀ : Heap} {L f : Addr} {m : Str → Option Value} {news : List (Addr × Obj)} {g : Obj → List (Addr × Obj)} {fd : FuncData} {sl : Array (Option Value)} {v : Value}
noncomputable abbrev fnD (fd : FuncData) (sl : Array (Option Value)) (d : Option Addr) : Obj := ⟨.type "function", d, .func fd, sl⟩
/-- a name laid on a function that has no dict yet -/
theorem set_fn {Q : Unit → Shared → Prop} (F : Fr h₀ L s.heap m) (N : News h₀ L s.heap news) (U : UpdF f (fnD fd sl none) news g)
    (h : ∀ d h', Fr h₀ L h' m → News h₀ L h' ((d, dictOf [⟨PyData.keyHash w.params "read", .str "read" (s.toks + 1), v⟩] 1) :: g (fnD fd sl (some d))) → (∀ p ∈ news, p.1 < d) → Q () { s with heap := h', toks := s.toks + 2 }) :
    wpAny (model prog w) A (setAttr (.ref f) "read" v) Q E s := by
  obtain ⟨pre, post, rfl, hg, h1, h2⟩ := U.split
  have hf := (N (f, fnD fd sl none) (by simp)).1
  have SF := PySem.F.store_object
  have t1 : Looks (model prog w) s.heap (typeOf (.ref f)) (.type "function") := (Looks.ld hf).andThen .now
  refine wpAny_bind (wpAny_mkText (wpAny_bind (wpAny_bind (wpAny_bind (t1 _ _ _ _ (fun _ _ e => e) ((Looks.of_pure fn_set) _ _ _ _ (fun _ _ e => e) (wpAny_holding ?_)))))))
  rw [PySem.F.store_object.slot.bind]
  refine wpAny_bind (wpAny_pure (wpAny_bind (wpAny_call ?_)))
  have sub : Looks (model prog w) s.heap (isInstance (.ref f) (.type "object")) true := t1.andThen (Looks.of_pure fn_sub)
  refine codeAny_call_builtin SF.slot.plain SF.entry (@check_slot (model prog w) _ _ { s with toks := s.toks + 1 } "object.__setattr__" "object" "__setattr__" (.ref f) [.str "read" s.toks, v] [] _ SF.kind SF.split sub (SF.args (.ref f) (.str "read" s.toks) v) ?_)
  rw [List.singleton_append, osa_eq, refuse_eq]
  refine wpAny_bind (wpAny_bind (t1 _ _ _ _ (fun _ _ e => e) (wpAny_bind ((Looks.of_pure fn_mro) _ _ _ _ (fun _ _ e => e) ?_))))
  rw [fn_refuse]
  refine wpAny_pure (wpAny_bind (t1 _ _ _ _ (fun _ _ e => e) (wpAny_bind ((Looks.of_pure fn_read) _ _ _ _ (fun _ _ e => e) (wpAny_bind (wpAny_pure ?_))))))
  refine wpAny_bind (wpAny_pure (wpAny_bind (wpAny_bind (wpAny_loadPart hf ?_))))
  have F1 := F.push emptyDict
  have N1 := N.push F emptyDict
  have hlt : ∀ p ∈ pre ++ (f, fnD fd sl none) :: post, p.1 < s.heap.objs.size := fun p hp => Heap.lt_size (N p hp).1
  have hne : f ≠ s.heap.objs.size := Nat.ne_of_lt (hlt (f, fnD fd sl none) (by simp))
  dsimp only
  rw [fn_has]
  refine wpAny_bind (wpAny_alloc ?_)
  have n1 : ∀ p ∈ (s.heap.objs.size, emptyDict) :: pre, p.1 ≠ f := fun p hp => by
    rcases List.mem_cons.mp hp with rfl | hp
    · exact Ne.symm hne
    · exact h1 p hp
  obtain ⟨F2, N2⟩ := news_upd (pre := (s.heap.objs.size, emptyDict) :: pre) (f := fun o => { o with dict := some s.heap.objs.size }) F1 N1 n1 h2 rfl rfl
  refine wpAny_bind (wpAny_update (N1 (f, fnD fd sl none) (by simp)).1 ?_)
  have e3 : dictMade (.type "function") f s.heap.objs.size = pure (some s.heap.objs.size) := by unfold dictMade; dsimp only; rw [fn_fin]; rfl
  rw [e3]
  refine wpAny_pure (wpAny_bind (wpAny_pure (wpAny_bind ?_)))
  have D := (N2 (s.heap.objs.size, emptyDict) (by simp)).1
  unfold nsSet
  refine wpAny_bind (wpAny_bind (wpAny_askSetting (wpAny_pure (wpAny_bind (wpAny_mkText (wpAny_bind (wpAny_loadPart D ?_)))))))
  dsimp only
  have c9 : (!(#[] : Array DictEntry).any (·.key.isStr "read") && (#[] : Array DictEntry).any (·.refKey)) = false := by simp
  rw [aRefKeyMayBeTheName_at, c9]
  have hl : ∀ p ∈ pre ++ (f, fnD fd sl (some s.heap.objs.size)) :: post, p.1 ≠ s.heap.objs.size := fun p hp => by
    rcases List.mem_append.mp hp with q | q
    · exact Nat.ne_of_lt (hlt p (List.mem_append_left _ q))
    · rcases List.mem_cons.mp q with rfl | q
      · exact hne
      · exact Nat.ne_of_lt (hlt p (List.mem_append_right _ (.tail _ q)))
  obtain ⟨F3, N3⟩ := news_upd (pre := []) (d := s.heap.objs.size) (f := Obj.putName "read" (PyData.keyHash w.params "read") (.str "read" (s.toks + 1)) v) F2 N2 (fun _ h => nomatch h) hl (putName_dict "read" (PyData.keyHash w.params "read") (.str "read" (s.toks + 1)) v [] 0) rfl
  refine wpAny_updatePart D ?_
  have D' := (N3 _ (.head _)).1
  refine wpAny_bind (wpAny_lookBehind D' (pastItsLine_dict (by rw [sizeLine_eq]; exact Nat.le_of_ble_eq_true rfl)) ?_)
  refine wpAny_pure (wpAny_pure (wpAny_pure (h s.heap.objs.size _ F3 ?_ hlt)))
  rw [hg]
  exact N3
end
end

section
open PySem PySem.Spec PySem.Calls PySem.W PyProof.Rows PySem.Builtin PySem.Builtin.ObjectAttr
theorem fn_ga : typeLookup (.type "function") "__getattribute__" = pure (some (.builtin "object.__getattribute__")) := by kernel_rfl
theorem fn_gattr : typeLookup (.type "function") "__getattr__" = pure none := by kernel_rfl
theorem fn_canon : Manifest.canonical "object.__getattribute__" = "object.__getattribute__" := by kernel_rfl
theorem oga_entry : entryFor table "object.__getattribute__" = some Builtin.«object.__getattribute__» := entryFor_of_tree (by kernel_rfl)
theorem oga_plain : plainId "object.__getattribute__" = true := by decide +kernel
theorem oga_kind : builtinKind "object.__getattribute__" = some .slot := by decide +kernel
theorem oga_split : splitId "object.__getattribute__" = some ("object", "__getattribute__") := by decide +kernel
theorem oga_args (a b : Value) : argsOk "object.__getattribute__" ⟨[a, b], []⟩ := by unfold argsOk; kernel_rfl
theorem oga_bind (self : Value) : bindSpecial (.builtin "object.__getattribute__") self = pure (.builtin "object.__getattribute__", [self]) := by kernel_rfl
theorem oga_slot (self : Value) (tk : Tok) : slotArgs "__getattribute__" 1 ⟨[self, .str "read" tk], []⟩ = pure (self, [.str "read" tk]) := by kernel_rfl
section
variable {prog : Program} {w : World} {A : Around} {E : Value → Shared → Prop} {s : Shared} {h₀ : Heap} {L f d : Addr} {m : Str → Option Value} {news : List (Addr × Obj)} {fd : FuncData} {sl : Array (Option Value)} {rd : Addr} {hs : Int} {kr : Tok} {n : Nat}
theorem get_fn {ex : Bool} {Q : Value → Shared → Prop} (hf : s.heap.get? f = some (fnD fd sl (some d))) (hd : s.heap.get? d = some (dictOf [⟨hs, .str "read" kr, .ref rd⟩] n))
    (h : Q (.ref rd) { s with toks := s.toks + 1 }) : wpAny (model prog w) A (getAttr (.ref f) "read" ex) Q E s := by
  have t1 : Looks (model prog w) s.heap (typeOf (.ref f)) (.type "function") := (Looks.ld hf).andThen .now
  unfold getAttr getAttrBy
  refine wpAny_bind (wpAny_mkText (wpAny_holding (wpAny_bind (t1 _ _ _ _ (fun _ _ e => e) (wpAny_bind ((Looks.of_pure fn_ga) _ _ _ _ (fun _ _ e => e) ?_))))))
  show wpAny _ _ (getAttrByItsOwn _ _ _ _ _ _) _ _ _
  unfold getAttrByItsOwn
  refine wpAny_bind (wpAny_pure (wpAny_bind (wpAny_attempt (wpAny_holding ?_))))
  show wpAny _ _ (callGetattribute _ _ _ _) _ _ _
  have e1 : callGetattribute (.ref f) (.str "read" s.toks) (.builtin "object.__getattribute__") ex = boundAndCalled (.builtin "object.__getattribute__") (.ref f) (.str "read" s.toks) := by cases ex <;> rfl
  rw [e1]
  unfold boundAndCalled
  rw [oga_bind]
  refine wpAny_bind (wpAny_pure (wpAny_call ?_))
  have sub : Looks (model prog w) s.heap (isInstance (.ref f) (.type "object")) true := t1.andThen (Looks.of_pure fn_sub)
  refine codeAny_call_builtin oga_plain oga_entry (@check_slot (model prog w) _ _ { s with toks := s.toks + 1 } "object.__getattribute__" "object" "__getattribute__" (.ref f) [.str "read" s.toks] [] _ oga_kind oga_split sub (oga_args (.ref f) (.str "read" s.toks)) ?_)
  rw [List.singleton_append]
  unfold Builtin.«object.__getattribute__»
  rw [oga_slot]
  refine wpAny_bind (wpAny_pure (wpAny_bind (wpAny_pure (wpAny_bind (t1 _ _ _ _ (fun _ _ e => e) ?_)))))
  have L1 : Looks (model prog w) s.heap (Builtin.ObjectAttr.find (.ref f) (.type "function") "read") (.value (.ref rd)) := by
    refine (Looks.of_pure fn_read).andThen (Looks.now.andThen (Looks.now.andThen ?_))
    have L2 : Looks (model prog w) s.heap (inOwnDict "read" (.ref f)) (some (.ref rd)) := by
      refine Looks.andThen (a := some d) ?_ ?_
      · exact (Looks.ld hf).andThen ((Looks.ld hf).andThen .now)
      · exact (Looks.ld hd).andThen .now
    exact L2.andThen (Looks.tag .now)
  refine wpAny_bind (L1 _ _ _ _ (fun _ _ e => e) (wpAny_pure ?_))
  exact wpAny_pure h
theorem method_fnD {pl : Sem Bool} {Q : Value × List Value → Shared → Prop} (N : News h₀ L s.heap news) (hf : (f, fnD fd sl (some d)) ∈ news) (hd : (d, dictOf [⟨hs, .str "read" kr, .ref rd⟩] n) ∈ news)
    (h : Q (.ref rd, []) { s with toks := s.toks + 1 }) : wpAny (model prog w) A (getMethod (.ref f) "read" pl) Q E s := by
  have hf' := (N _ hf).1
  have hd' := (N _ hd).1
  have t1 : Looks (model prog w) s.heap (typeOf (.ref f)) (.type "function") := (Looks.ld hf').andThen .now
  have s1 : Looks (model prog w) s.heap (specialOf (.ref f) "__getattribute__") (some (.builtin "object.__getattribute__")) := t1.andThen (Looks.of_pure fn_ga)
  have s2 : Looks (model prog w) s.heap (specialOf (.ref f) "__getattr__") none := t1.andThen (Looks.of_pure fn_gattr)
  have s3 : Looks (model prog w) s.heap (specialOf (.ref f) "read") none := t1.andThen (Looks.of_pure fn_read)
  unfold getMethod
  refine wpAny_bind (s1 _ _ _ _ (fun _ _ e => e) ?_)
  dsimp only
  rw [fn_canon]
  refine wpAny_bind (s2 _ _ _ _ (fun _ _ e => e) (wpAny_bind (s3 _ _ _ _ (fun _ _ e => e) (wpAny_bind (get_fn hf' hd' (wpAny_pure h))))))
end
end

section
local macro_rules | `(tactic| walk_at "mine pad") => `(tactic| skip)
theorem read_con (w : World) (mean : ExcName → Option Value) (mg mb : Str → Option Value) (i j k : Int) (t : Tok) (news : List (Addr × Obj))
   (h1 : Seven i) (h2 : Seven j) (h3 : Seven k) :
   Con w mean mg mb 131 news [.str (W3 i j k) t] 3 (fun news' v => ∃ D t1 t2, v = .ref D ∧ (∀ p ∈ news, p.1 < D) ∧ news' = (D, { cls := .type "tuple", data := .seq #[.int (nmA i j k) t1, .int (nmB i j k) t2] }) :: news) := by
  unfold Con; k_fill
  intro pr ls dp un gd cn cs a ccd cl outer A₀ base h₀ L m s Q E B F X N T hk hd hu hret
  ((refine wpAny_call ?_; k_dflt ktr_enter; refine acut ?_; intro _))
  (repeat' (first | (k_unfold; (try dsimp only)) | (k_end; wrow_close) | ((with_reducible show wpAny _ _ (call (Value.type "int") _) _ _ _); with_reducible ((k_here; (with_reducible show wpAny _ _ (call _ [Value.str _ _]) _ _ _); k_dflt (refine' int_of_dg ?k1 ?_; (case k1 => assumption); k_whole)))) | (with_reducible ((k_here; (with_reducible show wpAny _ _ (subscriptTail _ _ (Value.str (W3 _ _ _) _) (Value.int _ _)) _ _ _); k_dflt (refine' sub_W3 ?k1 ?_ ?k2 ?k3; (case k1 => first | exact Or.inl ⟨rfl, rfl⟩ | exact Or.inr (Or.inl ⟨rfl, rfl⟩) | exact Or.inr (Or.inr ⟨rfl, rfl⟩)); (case k2 => with_unfolding_all rfl); (case k3 => intro _; with_unfolding_all rfl); k_whole)))) | (with_reducible ((k_here; (with_reducible show wpAny _ _ (call (Value.ref 124) _) _ _ _); k_dflt (refine' (name_con _ _ _ _ _ _ _ _ _ _ _ ?ka ?kb ?kc) _ _ _ _ _ _ _ _ _ _ _ _ _ _ _ _ _ _ _ ?k1 ?k2 ?k3 ?k4 ?k5 ?kK ?kd ?ku ?_; (((case k1 => first | k_asm | ktn_no "the frames below"); (case k2 => first | k_asm | ktn_no "the frame"); (case k3 => first | k_asm | ktn_no "the written part"); (case k4 => first | k_asm | ktn_no "the ledger"); (case k5 => first | k_asm | ktn_no "the top"); (case kK => first | exact rfl | assumption | ktn_no "no def"); (case kd => first | ktr_room | ktn_no "the room"); (case ku => first | ktr_units | ktn_no "the units"))); (case ka => first | omega | assumption); (case kb => first | omega | assumption); (case kc => first | omega | assumption)); intro v' news' h' tk' F' N' hr'; obtain ⟨D', t1', t2', hv', l1, hn'⟩ := hr'; subst hv'; subst hn'; (try k_lt l1); (try k_sweep)))) | (with_reducible ((k_here; (with_reducible show wpAny _ _ (call (Value.ref 145) _) _ _ _); k_dflt (refine' (turned_con _ _ _ _ _ _ _ _ _ _ _ _ _ _ _ _ _ ?ka ?kb ?kc ?kd1 ?ke ?kf) _ _ _ _ _ _ _ _ _ _ _ _ _ _ _ _ _ _ _ ?k1 ?k2 ?k3 ?k4 ?k5 ?kK ?kd ?ku ?_; (((case k1 => first | k_asm | ktn_no "the frames below"); (case k2 => first | k_asm | ktn_no "the frame"); (case k3 => first | k_asm | ktn_no "the written part"); (case k4 => first | k_asm | ktn_no "the ledger"); (case k5 => first | k_asm | ktn_no "the top"); (case kK => first | exact rfl | assumption | ktn_no "no def"); (case kd => first | ktr_room | ktn_no "the room"); (case ku => first | ktr_units | ktn_no "the units"))); (case ka => k_mem); (case kb => k_mem); (case kc => omega); (case kd1 => omega); (case ke => omega); (case kf => omega)); intro v' news' h' tk' F' N' hr'; obtain ⟨D', t1', t2', hv', l1, hn'⟩ := hr'; subst hv'; subst hn'; (try k_lt l1); (try k_sweep)))) | (with_reducible ((k_here; (with_reducible show wpAny _ _ (call (Value.ref 138) _) _ _ _); k_dflt (refine' (norm_con _ _ _ _ _ _ _ _ _ _ _ ?ka ?kb ?kc) _ _ _ _ _ _ _ _ _ _ _ _ _ _ _ _ _ _ _ ?k1 ?k2 ?k3 ?k4 ?k5 ?kK ?kd ?ku ?_; (((case k1 => first | k_asm | ktn_no "the frames below"); (case k2 => first | k_asm | ktn_no "the frame"); (case k3 => first | k_asm | ktn_no "the written part"); (case k4 => first | k_asm | ktn_no "the ledger"); (case k5 => first | k_asm | ktn_no "the top"); (case kK => first | exact rfl | assumption | ktn_no "no def"); (case kd => first | ktr_room | ktn_no "the room"); (case ku => first | ktr_units | ktn_no "the units"))); (case ka => k_mem); (case kb => omega); (case kc => omega)); intro v' news' h' tk' F' N' hr'; obtain ⟨hn', t1', hv'⟩ := hr'; subst hv'; subst hn'; (try k_sweep)))) | ((with_reducible show wpAny _ _ (execs (_ :: _) _) _ _ _); with_reducible ((refine execs_cut ?_; intro _ _))) | ((with_reducible show wpAny _ _ (callWith _ (Value.ref _) _ _ _) _ _ _); with_reducible ((k_here; k_dflt (first | (refine' callWith_K ?k1 ?k2 ?_; (case k1 => k_asm); (case k2 => k_is); k_whole) | (refine' callWith_K0 ?k1 ?k2 ?_; (case k1 => k_in); (case k2 => k_is); k_whole))))) | ((with_reducible show wpAny _ _ (binaryOp .Mult (Value.int _ _) (Value.float _ _)) _ _ _); with_reducible ((k_here; k_dflt (refine' mulif_safe ?k1 ?_; (case k1 => omega); k_whole)))) | ((with_reducible show wpAny _ _ (binaryOp .Mult (Value.float _ _) (Value.int _ _)) _ _ _); with_reducible ((k_here; k_dflt (refine' mulfi_safe ?k1 ?_; (case k1 => omega); k_whole)))) | ((with_reducible show wpAny _ _ (binaryOp .Mod (Value.float _ _) (Value.float _ _)) _ _ _); with_reducible ((k_here; k_dflt (refine' fmod_safe ?k1 ?k2 ?_; (case k1 => with_unfolding_all rfl); (case k2 => decide +kernel); k_whole)))) | ((with_reducible show wpAny _ _ (binaryOp .Div (Value.float _ _) (Value.float _ _)) _ _ _); with_reducible ((k_here; k_dflt (refine' fdiv_safe ?k1 ?k2 ?_; (case k1 => with_unfolding_all rfl); (case k2 => decide +kernel); k_whole)))) | ((with_reducible show wpAny _ _ (binaryOp .Div (Value.int _ _) (Value.int _ _)) _ _ _); with_reducible ((k_here; k_dflt (refine' div_safe ?k1 ?k2 ?k3 ?_; (case k1 => with_unfolding_all rfl); (case k2 => omega); (case k3 => omega); k_whole)))) | ((with_reducible show wpAny _ _ (call (Value.builtin "min") _) _ _ _); with_reducible ((k_here; (with_reducible show wpAny _ _ (call (Value.builtin _) [Value.int _ _, Value.int _ _, Value.int _ _]) _ _ _); k_dflt (refine' min3_N ?k1 ?k2 ?k3 ?_; (case k1 => with_unfolding_all rfl); (case k2 => k_asm); (case k3 => k_asm); k_whole); intro h' tk' tt' F' N'; (try k_sweep)))) | ((with_reducible show wpAny _ _ (call (Value.builtin "max") _) _ _ _); with_reducible ((k_here; (with_reducible show wpAny _ _ (call (Value.builtin _) [Value.int _ _, Value.int _ _, Value.int _ _]) _ _ _); k_dflt (refine' max3_N ?k1 ?k2 ?k3 ?_; (case k1 => with_unfolding_all rfl); (case k2 => k_asm); (case k3 => k_asm); k_whole); intro h' tk' tt' F' N'; (try k_sweep)))) | walk1 | dsimp only | (leave1; walk_say "STEP leave1"; try dsimp only)))
  refine hret _ _ _ _ (by k_asm) (by k_asm) ⟨_, _, _, rfl, by (first | assumption | exact ktn_ltOf (by assumption) | exact ktn_ltOf (And.right (by assumption)) | exact ktn_ltOf (And.right (And.right (by assumption))) | exact ktn_ltOf (And.right (And.right (And.right (by assumption))))), rfl⟩
end

section
open PySem PySem.Builtin.Str
noncomputable def one (cs : List Nat) (p : Nat) : Str := ⟨((cs.drop p).take 1).toArray⟩
theorem sidx1 (n p : Nat) : strSliceIndices (some (p:Int)) (some ((p:Int)+1)) 1 n = if p < n then [p] else [] := by
  unfold strSliceIndices sliceRange
  simp only [show ((p:Int) < 0) = False by simp, show ((p:Int) + 1 < 0) = False by simp; omega, if_false, show ((1:Int) > 0) = True by simp, if_true]
  by_cases h : p < n
  · have e1 : max 0 (min (p:Int) n) = p := by omega
    have e2 : max 0 (min ((p:Int)+1) n) = p + 1 := by omega
    rw [e1, e2, if_pos (by omega), if_pos h]
    have e3 : (((p:Int) + 1 - p + 1 - 1) / 1).toNat = 1 := by
      have : ((p:Int) + 1 - p + 1 - 1) = 1 := by omega
      rw [this]; rfl
    rw [e3]
    simp [List.range_succ]
  · have e1 : max 0 (min (p:Int) n) = n := by omega
    have e2 : max 0 (min ((p:Int)+1) n) = n := by omega
    rw [e1, e2, if_neg (by omega), if_neg h]
    rfl
theorem slice1 (cs : List Nat) (p : Nat) : Txt.slice ⟨cs.toArray⟩ (some (p:Int)) (some ((p:Int)+1)) = one cs p := by
  unfold Txt.slice one
  rw [show (⟨cs.toArray⟩ : PySem.Str).length = cs.length from List.size_toArray, sidx1]
  rcases Nat.lt_or_ge p cs.length with h | h
  · rw [if_pos h]
    have e : (cs.drop p).take 1 = [cs[p]] := by rw [List.drop_eq_getElem_cons h]; rfl
    split
    · rename_i q
      have h1 : cs.length = 1 := by
        have q2 := (Bool.and_eq_true_iff.mp q).2
        have q3 := beq_iff_eq.mp q2
        exact q3.symm
      have h0 : p = 0 := by omega
      subst h0
      rw [e]
      match cs, h, h1 with
      | [c], _, _ => rfl
    · rw [e]; simp [h]
  · rw [if_neg (Nat.not_lt.mpr h)]
    rw [List.drop_eq_nil_of_le h]
    split
    · rename_i q
      have q2 := (Bool.and_eq_true_iff.mp q).2
      have q3 : 0 = cs.length := beq_iff_eq.mp q2
      have : cs = [] := List.length_eq_zero_iff.mp q3.symm
      subst this; rfl
    · rfl
end

section
theorem ne_AllLt {I d : Nat} {rest : List (Addr × Obj)} (h : AllLt I rest) (hd : @LE.le Nat _ I d) : ∀ q ∈ rest, q.1 ≠ d := ne_lt_all (ktn_ltOf h) hd
local macro_rules | `(tactic| k_all) => `(tactic| first | assumption | exact ne_AllLt (by assumption) (by omega))
local macro_rules | `(tactic| k_mem) => `(tactic| exact List.Mem.tail _ (by assumption))
noncomputable def RdOk (w : World) (mean : ExcName → Option Value) (mg mb : Str → Option Value) (cs : List Nat) (rd l : Addr) (fix : List (Addr × Obj)) : Prop :=
  ∀ (p : Nat) (tp ts : Tok) (n : Nat) (rest : List (Addr × Obj)), (∀ q ∈ rest, q.1 ≠ l) → (∀ q ∈ fix, q ∈ rest) →
    ConC w mean mg mb rd ((l, listOf #[.int (p : Int) tp] n) :: rest) [.int 1 ts] 1
      (fun news' v => ∃ t1 t2 n', v = .str (one cs p) t1 ∧ news' = (l, listOf #[.int ((p : Int) + ((one cs p).length : Int)) t2] n') :: rest)
noncomputable abbrev lexD (w : World) (k1 k2 k3 k4 tl tw : Tok) (ln : Int) (fs pb : Addr) : Obj :=
  dictOf [⟨PyData.keyHash w.params "lineno", .str "lineno" k1, .int ln tl⟩, ⟨PyData.keyHash w.params "instream", .str "instream" k2, .ref fs⟩, ⟨PyData.keyHash w.params "whitespace", .str "whitespace" k3, .str "\n\t\r " tw⟩, ⟨PyData.keyHash w.params "pushback", .str "pushback" k4, .ref pb⟩] 4
theorem lexer_con (w : World) (mean : ExcName → Option Value) (mg mb : Str → Option Value) (x : List Nat) (tx : Tok) (rest : List (Addr × Obj)) (hx9 : x.length ≤ 40) (hr : ∀ q ∈ rest, q.1 ≠ 107) :
   ConC w mean mg mb 112 ((107, tabObj #[]) :: rest) [.str ⟨x.toArray⟩ tx] 3
     (fun news' v => ∃ (pb lx dl fdd fs c2 rd c1 l ca ct : Nat) (oc2 oc1 oca oct : Obj) (fr fdx : FuncData) (ps : Array Value) (k1 k2 k3 k4 tl tw kr t0 : Tok) (e1 e2 : Nat), v = .ref lx ∧
       news' = (pb, listOf #[] e1) :: (lx, instObj 101 dl) :: (dl, lexD w k1 k2 k3 k4 tl tw 1 fs pb) :: (fdd, dictOf [⟨PyData.keyHash w.params "read", .str "read" kr, .ref rd⟩] 1) :: (fs, fnD fdx #[] (some fdd)) ::
         (c2, oc2) :: (rd, fnD fr #[] none) :: (c1, oc1) :: (l, listOf #[.int 0 t0] e2) :: (ca, oca) :: (ct, oct) :: (107, tabObj ps) :: rest ∧
       (ct < ca ∧ ca < l ∧ l < c1 ∧ c1 < rd ∧ rd < c2 ∧ c2 < fs ∧ fs < fdd ∧ fdd < dl ∧ dl < lx ∧ lx < pb) ∧ (∀ q ∈ rest, q.1 < ct) ∧ 107 < ct ∧
       RdOk w mean mg mb x rd l [(rd, fnD fr #[] none), (c1, oc1), (ca, oca), (ct, oct)]) := by
  unfold ConC; k_fill
  have hx : (⟨x.toArray⟩ : Str).length ≤ 40 := hx9
  intro pr ls dp un gd cn cs a ccd cl outer A₀ base h₀ L m s Q E HC B F X N T hk hd hu hret
  ((refine wpAny_call ?_; k_dflt (refine' code_defC ?k1 ?k2 ?k3 ?k4 ?k5 ?kA ?kF ?kK ?k6 ?k7 ?k8 ?k9 ?kB ?kD ?_ ?c2 ?c3 ?c4; (case kA => exact rfl); (case kF => exact rfl); (case kK => assumption); (case k1 => k_asm); (case k2 => k_asm); (case k3 => k_asm); (case k4 => k_asm); (case k5 => k_asm); (case k6 => k_is); (case k7 => k_is); (case k8 => k_room); (case k9 => first | exact BindsTo.of_eq rfl | exact binds_K (by k_in) rfl (by k_is) rfl rfl rfl | fail "k_enter: no rule for these arguments"); (case kB => exact rfl); (case kD => decide +kernel); (case c2 => exact rfl); (case c3 => exact rfl); (case c4 => exact rfl); k_whole; intro g' L' h' tk' cells' FG' F' N' Y' B' X' T' l1; (try k_lt l1); k_cells Y'; (try simp only [List.cons_append, List.nil_append] at N'); (try dsimp only); (try k_lift B'); (try k_fold)); refine acut ?_; intro _))
  rename _ ∧ AllLt _ _ => l9
  have l8 := l9.2
  (repeat' (first | (k_unfold; (try dsimp only)) | (k_end; wrow_close) | ((with_reducible show wpAny _ _ (setAttr (Value.ref _) _ _) _ _ _); with_reducible ((k_here; k_dflt (refine' set_fn ?F ?N ?U ?_; (case F => k_asm); (case N => k_asm); (case U => k_updF); k_whole); intro d' h' F' N' l1; (try dsimp only at N'); (try k_lt l1); (try k_sweep)))) | ((with_reducible show wpAny _ _ (execs (_ :: _) _) _ _ _); with_reducible ((refine execs_cut ?_; intro _ _))) | ((with_reducible show wpAny _ _ (callWith _ (Value.ref _) _ _ _) _ _ _); with_reducible ((k_here; k_dflt (first | (refine' callWith_K ?k1 ?k2 ?_; (case k1 => k_asm); (case k2 => k_is); k_whole) | (refine' callWith_K0 ?k1 ?k2 ?_; (case k1 => k_in); (case k2 => k_is); k_whole))))) | ((with_reducible show wpAny _ _ (binaryOp .Mult (Value.int _ _) (Value.float _ _)) _ _ _); with_reducible ((k_here; k_dflt (refine' mulif_safe ?k1 ?_; (case k1 => omega); k_whole)))) | ((with_reducible show wpAny _ _ (binaryOp .Mult (Value.float _ _) (Value.int _ _)) _ _ _); with_reducible ((k_here; k_dflt (refine' mulfi_safe ?k1 ?_; (case k1 => omega); k_whole)))) | ((with_reducible show wpAny _ _ (binaryOp .Mod (Value.float _ _) (Value.float _ _)) _ _ _); with_reducible ((k_here; k_dflt (refine' fmod_safe ?k1 ?k2 ?_; (case k1 => with_unfolding_all rfl); (case k2 => decide +kernel); k_whole)))) | ((with_reducible show wpAny _ _ (binaryOp .Div (Value.float _ _) (Value.float _ _)) _ _ _); with_reducible ((k_here; k_dflt (refine' fdiv_safe ?k1 ?k2 ?_; (case k1 => with_unfolding_all rfl); (case k2 => decide +kernel); k_whole)))) | ((with_reducible show wpAny _ _ (binaryOp .Div (Value.int _ _) (Value.int _ _)) _ _ _); with_reducible ((k_here; k_dflt (refine' div_safe ?k1 ?k2 ?k3 ?_; (case k1 => with_unfolding_all rfl); (case k2 => omega); (case k3 => omega); k_whole)))) | ((with_reducible show wpAny _ _ (call (Value.builtin "min") _) _ _ _); with_reducible ((k_here; (with_reducible show wpAny _ _ (call (Value.builtin _) [Value.int _ _, Value.int _ _, Value.int _ _]) _ _ _); k_dflt (refine' min3_N ?k1 ?k2 ?k3 ?_; (case k1 => with_unfolding_all rfl); (case k2 => k_asm); (case k3 => k_asm); k_whole); intro h' tk' tt' F' N'; (try k_sweep)))) | ((with_reducible show wpAny _ _ (call (Value.builtin "max") _) _ _ _); with_reducible ((k_here; (with_reducible show wpAny _ _ (call (Value.builtin _) [Value.int _ _, Value.int _ _, Value.int _ _]) _ _ _); k_dflt (refine' max3_N ?k1 ?k2 ?k3 ?_; (case k1 => with_unfolding_all rfl); (case k2 => k_asm); (case k3 => k_asm); k_whole); intro h' tk' tt' F' N'; (try k_sweep)))) | walk1 | dsimp only | (leave1; walk_say "STEP leave1"; try dsimp only)))
  refine hret _ _ _ _ (by k_asm) (by k_asm) ⟨_, _, _, _, _, _, _, _, _, _, _, _, _, _, _, _, _, _, _, _, _, _, _, _, _, _, _, _, rfl, rfl, ?_, ?_, ?_, ?_⟩
  · omega
  · exact fun q hq => Nat.lt_succ_of_lt (ktn_ltOf l8 q hq)
  · omega
  · clear hret
    intro p tp ts n rest hne hfix
    unfold ConC
    intro pr ls dp un gd cn cs a ccd cl outer A₀ base h₀ L m s Q E HC B F X N T hk hd hu hret
    have m1 := (hfix _ (List.Mem.head _))
    have m2 := (hfix _ (List.Mem.tail _ (List.Mem.head _)))
    have m3 := (hfix _ (List.Mem.tail _ (List.Mem.tail _ (List.Mem.head _))))
    have m4 := (hfix _ (List.Mem.tail _ (List.Mem.tail _ (List.Mem.tail _ (List.Mem.head _)))))
    ((refine wpAny_call ?_; k_dflt (refine' code_nest ?k1 ?k2 ?k3 ?k4 ?k5 ?kA ?kF ?kK ?k6 ?k7 ?k8 ?k9 ?kB ?_ ?c2 ?c3 ?c4 ?c5; (case kA => exact rfl); (case kF => exact rfl); (case kK => assumption); (case k1 => k_asm); (case k2 => k_asm); (case k3 => k_asm); (case k4 => k_asm); (case k5 => k_asm); (case k6 => exact List.Mem.tail _ (by assumption)); (case k7 => exact codeRec_news (by k_asm) (List.Mem.tail _ (by assumption)) (by assumption) (by assumption)); (case k8 => k_room); (case k9 => exact BindsTo.of_eq rfl); (case c5 => decide); (case kB => exact locs rfl); (case c2 => exact rfl); (case c3 => exact rfl); (case c4 => exact rfl); k_whole; intro g' L' h' FG' F' N' B' X' T'; (try dsimp only); (try k_lift B'); (try k_fold))))
    (repeat' (first | (k_unfold; (try dsimp only)) | (k_end; wrow_close) | ((with_reducible show wpAny _ _ (setAttr (Value.ref _) _ _) _ _ _); with_reducible ((k_here; k_dflt (refine' set_fn ?F ?N ?U ?_; (case F => k_asm); (case N => k_asm); (case U => k_updF); k_whole); intro d' h' F' N' l1; (try dsimp only at N'); (try k_lt l1); (try k_sweep)))) | ((with_reducible show wpAny _ _ (execs (_ :: _) _) _ _ _); with_reducible ((refine execs_cut ?_; intro _ _))) | ((with_reducible show wpAny _ _ (callWith _ (Value.ref _) _ _ _) _ _ _); with_reducible ((k_here; k_dflt (first | (refine' callWith_K ?k1 ?k2 ?_; (case k1 => k_asm); (case k2 => k_is); k_whole) | (refine' callWith_K0 ?k1 ?k2 ?_; (case k1 => k_in); (case k2 => k_is); k_whole))))) | ((with_reducible show wpAny _ _ (binaryOp .Mult (Value.int _ _) (Value.float _ _)) _ _ _); with_reducible ((k_here; k_dflt (refine' mulif_safe ?k1 ?_; (case k1 => omega); k_whole)))) | ((with_reducible show wpAny _ _ (binaryOp .Mult (Value.float _ _) (Value.int _ _)) _ _ _); with_reducible ((k_here; k_dflt (refine' mulfi_safe ?k1 ?_; (case k1 => omega); k_whole)))) | ((with_reducible show wpAny _ _ (binaryOp .Mod (Value.float _ _) (Value.float _ _)) _ _ _); with_reducible ((k_here; k_dflt (refine' fmod_safe ?k1 ?k2 ?_; (case k1 => with_unfolding_all rfl); (case k2 => decide +kernel); k_whole)))) | ((with_reducible show wpAny _ _ (binaryOp .Div (Value.float _ _) (Value.float _ _)) _ _ _); with_reducible ((k_here; k_dflt (refine' fdiv_safe ?k1 ?k2 ?_; (case k1 => with_unfolding_all rfl); (case k2 => decide +kernel); k_whole)))) | ((with_reducible show wpAny _ _ (binaryOp .Div (Value.int _ _) (Value.int _ _)) _ _ _); with_reducible ((k_here; k_dflt (refine' div_safe ?k1 ?k2 ?k3 ?_; (case k1 => with_unfolding_all rfl); (case k2 => omega); (case k3 => omega); k_whole)))) | ((with_reducible show wpAny _ _ (call (Value.builtin "min") _) _ _ _); with_reducible ((k_here; (with_reducible show wpAny _ _ (call (Value.builtin _) [Value.int _ _, Value.int _ _, Value.int _ _]) _ _ _); k_dflt (refine' min3_N ?k1 ?k2 ?k3 ?_; (case k1 => with_unfolding_all rfl); (case k2 => k_asm); (case k3 => k_asm); k_whole); intro h' tk' tt' F' N'; (try k_sweep)))) | ((with_reducible show wpAny _ _ (call (Value.builtin "max") _) _ _ _); with_reducible ((k_here; (with_reducible show wpAny _ _ (call (Value.builtin _) [Value.int _ _, Value.int _ _, Value.int _ _]) _ _ _); k_dflt (refine' max3_N ?k1 ?k2 ?k3 ?_; (case k1 => with_unfolding_all rfl); (case k2 => k_asm); (case k3 => k_asm); k_whole); intro h' tk' tt' F' N'; (try k_sweep)))) | walk1 | dsimp only | (leave1; walk_say "STEP leave1"; try dsimp only)))
    refine hret _ _ _ _ (by k_asm) (by k_asm) ⟨_, _, _, by rw [← slice1]; rfl, by rw [← slice1]; rfl⟩
end

section
local macro_rules | `(tactic| walk_at "mine pad") => `(tactic| skip)
theorem RdOk.use {w : World} {mean : ExcName → Option Value} {mg mb : Str → Option Value} {cs : List Nat} {rd l : Addr} {fix : List (Addr × Obj)} (h : RdOk w mean mg mb cs rd l fix) :
  ∀ (p : Nat) (tp ts : Tok) (n : Nat) (rest : List (Addr × Obj)), (∀ q ∈ rest, q.1 ≠ l) → (∀ q ∈ fix, q ∈ rest) →
    ConC w mean mg mb rd ((l, listOf #[.int (p : Int) tp] n) :: rest) [.int 1 ts] 1
      (fun news' v => ∃ t1 t2 n', v = .str (one cs p) t1 ∧ news' = (l, listOf #[.int ((p : Int) + ((one cs p).length : Int)) t2] n') :: rest) := h
theorem News.swap {h₀ h : Heap} {L : Addr} {a b : Addr × Obj} {r : List (Addr × Obj)} (N : News h₀ L h (a :: b :: r)) : News h₀ L h (b :: a :: r) := fun q hq => N q (by
  rcases List.mem_cons.mp hq with rfl | hq
  · exact .tail _ (.head _)
  · rcases List.mem_cons.mp hq with rfl | hq
    · exact .head _
    · exact .tail _ (.tail _ hq))
local macro_rules | `(tactic| k_all) => `(tactic| first | assumption | exact ne_AllLt (by assumption) (by omega))
local macro_rules | `(tactic| k_mem) => `(tactic| first | assumption | exact List.Mem.tail _ (by assumption) | exact List.Mem.tail _ (List.Mem.tail _ (by assumption)))
noncomputable def nlc (c : Str) : Int := if (c == Str.ofString "\n") = true then 1 else 0
theorem read_char_conK (w : World) (mean : ExcName → Option Value) (mg mb : Str → Option Value) (cz : List Nat) (lx dl fdd fs rd l pb : Nat) (fdx : FuncData) (k1 k2 k3 k4 tl tw kr tp : Tok) (ln : Int) (p n : Nat) (fr : FuncData) (fix rest : List (Addr × Obj))
   (R : RdOk w mean mg mb cz rd l fix) (h1 : (lx, instObj 101 dl) ∈ rest) (h2 : (fdd, dictOf [⟨PyData.keyHash w.params "read", .str "read" kr, .ref rd⟩] 1) ∈ rest) (h3 : (fs, fnD fdx #[] (some fdd)) ∈ rest) (h4 : (rd, fnD fr #[] none) ∈ rest) (hf : ∀ q ∈ fix, q ∈ rest)
   (n1 : ∀ q ∈ rest, q.1 ≠ dl) (n2 : ∀ q ∈ rest, q.1 ≠ l) (n3 : dl ≠ l) :
   ConK w mean mg mb 84 ((dl, lexD w k1 k2 k3 k4 tl tw ln fs pb) :: (l, listOf #[.int (p : Int) tp] n) :: rest) [.ref lx] 3
     (fun news' v => ∃ t1 t2 n' tl', v = .str (one cz p) t1 ∧ news' = (dl, lexD w k1 k2 k3 k4 tl' tw (ln + nlc (one cz p)) fs pb) :: (l, listOf #[.int ((p : Int) + ((one cz p).length : Int)) t2] n') :: rest) := by
  have n9 : ∀ q ∈ (dl, lexD w k1 k2 k3 k4 tl tw ln fs pb) :: rest, q.1 ≠ l := List.forall_mem_cons.mpr ⟨n3, n2⟩
  have f9 : ∀ q ∈ fix, q ∈ (dl, lexD w k1 k2 k3 k4 tl tw ln fs pb) :: rest := fun q hq => .tail _ (hf q hq)
  unfold ConK; k_fill
  intro pr ls dp un gd cn cs a ccd cl outer A₀ base h₀ L m s Q E HC B F X N T hk hd hu hret
  k_dflt ktr_enter
  (repeat' (first | (k_unfold; (try dsimp only)) | (k_end; wrow_close) | (with_reducible ((k_here; (with_reducible show wpAny _ _ (call (Value.ref _) [Value.int 1 _]) _ _ _); k_dflt (refine' (RdOk.use ?kR _ _ _ _ _ ?ka ?kb) _ _ _ _ _ _ _ _ _ _ _ _ _ _ _ _ _ _ _ ?k0 ?k1 ?k2 ?k3 ?k4 ?k5 ?kK ?kd ?ku ?_; (case kR => assumption); (case k4 => exact News.swap (by assumption)); (((case k0 => assumption); (case k1 => first | k_asm | ktn_no "the frames below"); (case k2 => first | k_asm | ktn_no "the frame"); (case k3 => first | k_asm | ktn_no "the written part"); (case k5 => first | k_asm | ktn_no "the top"); (case kK => first | exact rfl | assumption | ktn_no "no def"); (case kd => first | ktr_room | ktn_no "the room"); (case ku => first | ktr_units | ktn_no "the units"))); (case ka => assumption); (case kb => assumption)); intro v' news' h' tk' F' N' hr'; obtain ⟨t1', t2', n', hv', hn'⟩ := hr'; subst hv'; subst hn'; replace N' := News.swap N'))) | ((with_reducible show wpAny _ _ (getMethod (Value.ref _) _ _) _ _ _); with_reducible ((k_here; k_dflt (refine' method_fnD ?N ?f ?d ?_; (case N => k_asm); (case f => k_mem); (case d => k_mem); k_whole)))) | ((with_reducible show wpAny _ _ (execs (_ :: _) _) _ _ _); with_reducible ((refine execs_cut ?_; intro _ _))) | ((with_reducible show wpAny _ _ (callWith _ (Value.ref _) _ _ _) _ _ _); with_reducible ((k_here; k_dflt (first | (refine' callWith_K ?k1 ?k2 ?_; (case k1 => k_asm); (case k2 => k_is); k_whole) | (refine' callWith_K0 ?k1 ?k2 ?_; (case k1 => k_in); (case k2 => k_is); k_whole))))) | ((with_reducible show wpAny _ _ (binaryOp .Mult (Value.int _ _) (Value.float _ _)) _ _ _); with_reducible ((k_here; k_dflt (refine' mulif_safe ?k1 ?_; (case k1 => omega); k_whole)))) | ((with_reducible show wpAny _ _ (binaryOp .Mult (Value.float _ _) (Value.int _ _)) _ _ _); with_reducible ((k_here; k_dflt (refine' mulfi_safe ?k1 ?_; (case k1 => omega); k_whole)))) | ((with_reducible show wpAny _ _ (binaryOp .Mod (Value.float _ _) (Value.float _ _)) _ _ _); with_reducible ((k_here; k_dflt (refine' fmod_safe ?k1 ?k2 ?_; (case k1 => with_unfolding_all rfl); (case k2 => decide +kernel); k_whole)))) | ((with_reducible show wpAny _ _ (binaryOp .Div (Value.float _ _) (Value.float _ _)) _ _ _); with_reducible ((k_here; k_dflt (refine' fdiv_safe ?k1 ?k2 ?_; (case k1 => with_unfolding_all rfl); (case k2 => decide +kernel); k_whole)))) | ((with_reducible show wpAny _ _ (binaryOp .Div (Value.int _ _) (Value.int _ _)) _ _ _); with_reducible ((k_here; k_dflt (refine' div_safe ?k1 ?k2 ?k3 ?_; (case k1 => with_unfolding_all rfl); (case k2 => omega); (case k3 => omega); k_whole)))) | ((with_reducible show wpAny _ _ (call (Value.builtin "min") _) _ _ _); with_reducible ((k_here; (with_reducible show wpAny _ _ (call (Value.builtin _) [Value.int _ _, Value.int _ _, Value.int _ _]) _ _ _); k_dflt (refine' min3_N ?k1 ?k2 ?k3 ?_; (case k1 => with_unfolding_all rfl); (case k2 => k_asm); (case k3 => k_asm); k_whole); intro h' tk' tt' F' N'; (try k_sweep)))) | ((with_reducible show wpAny _ _ (call (Value.builtin "max") _) _ _ _); with_reducible ((k_here; (with_reducible show wpAny _ _ (call (Value.builtin _) [Value.int _ _, Value.int _ _, Value.int _ _]) _ _ _); k_dflt (refine' max3_N ?k1 ?k2 ?k3 ?_; (case k1 => with_unfolding_all rfl); (case k2 => k_asm); (case k3 => k_asm); k_whole); intro h' tk' tt' F' N'; (try k_sweep)))) | walk1 | dsimp only | (leave1; walk_say "STEP leave1"; try dsimp only)))
  · refine hret _ _ _ _ (by k_asm) (by k_asm) ?_
    rw [show nlc (one cz p) = 1 from if_pos (by assumption)]
    exact ⟨_, _, _, _, rfl, rfl⟩
  · refine hret _ _ _ _ (by k_asm) (by k_asm) ?_
    rw [show nlc (one cz p) = 0 from if_neg (Bool.eq_false_iff.mp (by assumption)), Int.add_zero]
    exact ⟨_, _, _, _, rfl, rfl⟩
end

section
open PySem PySem.Spec PySem.Calls PySem.W PyProof.Rows PySem.Builtin
theorem slot_ci_next : Slot "callable_iterator" "__next__" "callable_iterator.__next__" :=
  .of (owner := "callable_iterator") (n := "__next__") (by rw [typeLookup_type, builtinLookup_eq_fast]; kernel_rfl) (by decide +kernel) (by decide +kernel) (by decide +kernel)
    (by first | exact .inl (by decide +kernel) | exact .inr (by decide +kernel)) (by rw [isSubtype_type]; kernel_rfl)
theorem slot_ci_iter : Slot "callable_iterator" "__iter__" "callable_iterator.__iter__" :=
  .of (owner := "callable_iterator") (n := "__iter__") (by rw [typeLookup_type, builtinLookup_eq_fast]; kernel_rfl) (by decide +kernel) (by decide +kernel) (by decide +kernel)
    (by first | exact .inl (by decide +kernel) | exact .inr (by decide +kernel)) (by rw [isSubtype_type]; kernel_rfl)
theorem entry_ci_next : entryFor table "callable_iterator.__next__" = some Builtin.«callable_iterator.__next__» := entryFor_of_tree (by kernel_rfl)
theorem entry_ci_iter : entryFor table "callable_iterator.__iter__" = some Builtin.«dict_keyiterator.__iter__» :=
  entryFor_alias (id' := "dict_keyiterator.__iter__") (by kernel_rfl) (by first | rfl | decide +kernel | (unfold String.splitOn; simp +decide [String.splitOnAux])) (by decide +kernel) (by kernel_rfl)
theorem args_ci_next (a : Value) : argsOk "callable_iterator.__next__" ⟨[a], []⟩ := by unfold argsOk; kernel_rfl
theorem args_ci_iter (a : Value) : argsOk "callable_iterator.__iter__" ⟨[a], []⟩ := by unfold argsOk; kernel_rfl
noncomputable abbrev ciO (f sent : Value) (b : Bool) : Obj := { cls := .type "callable_iterator", data := .fields #[f, sent, .bool b] }
theorem method_has : typeLookup (.type "method") "__call__" = pure (some (.builtin "method.__call__")) := by kernel_rfl
theorem args_iter2 (a b : Value) : argsOk "iter" ⟨[a, b], []⟩ := by unfold argsOk; kernel_rfl
theorem wpAny_callBorrowed {M : Model} {A : Around} {E : Value → Shared → Prop} {s : Shared} {f : Value} {Q : Value → Shared → Prop} (h : wpAny M A (call f []) Q E s) : wpAny M A (callBorrowed f []) Q E s := fun Γ p hΓ => by
  have z := h Γ p hΓ
  rw [Sem.wp_cmd_call] at z
  unfold callBorrowed
  rw [Sem.wp_call]
  refine Eq.mp ?_ z
  congr 1
  funext r s'
  cases r with
  | error e => rfl
  | ok f => cases f <;> rfl
theorem stop_sub : isSubtype (.type "StopIteration") (.type "StopIteration") = pure true := by rw [isSubtype_type]; kernel_rfl
section
variable {prog : Program} {w : World} {A : Around} {E : Value → Shared → Prop} {s : Shared} {h₀ : Heap} {L D q g : Addr} {m : Str → Option Value} {news : List (Addr × Obj)} {f self sent : Value} {og : Obj} {fd : FuncData} {t0 : Tok}
theorem iter_ci {Q : Value → Shared → Prop} (F : Fr h₀ L s.heap m) (N : News h₀ L s.heap news) (hq : (q, methodObj f self) ∈ news)
    (h : ∀ D h', Fr h₀ L h' m → News h₀ L h' ((D, ciO (.ref q) sent false) :: news) → (∀ p ∈ news, p.1 < D) → Q (.ref D) { s with heap := h' }) :
    wpAny (model prog w) A (call (.builtin "iter") [.ref q, sent]) Q E s := by
  refine call_function_entry (by decide +kernel) (by decide +kernel) kdk_entry_iter (args_iter2 _ _) ?_
  unfold Builtin.«iter»
  refine wpAny_bind (m := someArgs "iter" 1 2 _) (wpAny_of_eq (a := [Value.ref q, sent]) (by first | rfl | kernel_rfl!) ?_)
  have t1 : Looks (model prog w) s.heap (typeOf (.ref q)) (.type "method") := (Looks.ld (N _ hq).1).andThen .now
  have s1 : Looks (model prog w) s.heap (specialOf (.ref q) "__call__") (some (.builtin "method.__call__")) := t1.andThen (Looks.of_pure method_has)
  show wpAny _ _ (specialOf (.ref q) "__call__" >>= _) _ _ _
  refine wpAny_bind (s1 _ _ _ _ (fun _ _ e => e) ?_)
  refine wpAny_bind (wpAny_rule ?_)
  refine wpAny_bind (wpAny_newObj_type ?_ (by size_fits))
  exact wpAny_pure ⟨_, rfl, h _ _ (F.push _) (N.push F _) fun p hp => Heap.lt_size (N p hp).1⟩
theorem again_ci {b : Bool} {Q : Value → Shared → Prop} (hD : s.heap.get? D = some (ciO f sent b)) (h : Q (.ref D) s) : wpAny (model prog w) A (pyIter (.ref D)) Q E s := by
  have hT : s.TypeIs (.ref D) "callable_iterator" := ⟨_, hD, rfl⟩
  refine wpAny_pyIter_slot hT slot_ci_iter (wpAny_call_entry slot_ci_iter hT entry_ci_iter ?_ (args_ci_iter _))
  show wpAny _ _ (ret (.ref D)) _ _ s
  exact wpAny_pure ⟨_, rfl, "callable_iterator", _, hT, slot_ci_next.lookup, h⟩
theorem borrows {M : Model} {h : Heap} (hq : h.get? q = some (methodObj (.ref g) self)) (hg : h.get? g = some og) (hd : og.data = .func fd) : Looks M h (borrowsExactly (.ref q)) true := by
  unfold borrowsExactly
  refine (Looks.ld (part := none) hq).andThen ?_
  refine (Looks.ld (part := none) hg).andThen ?_
  rw [hd]
  exact .now
/-- what a turn of the iterator asks of the call -/
noncomputable def NextCi (D q g : Addr) (og : Obj) (self : Value) (t0 : Tok) (Q : Option Value → Shared → Prop) (r : Value) (s' : Shared) : Prop :=
  ∃ c tc, r = .str c tc ∧ s'.heap.get? D = some (ciO (.ref q) (.str "" t0) false) ∧ s'.heap.get? q = some (methodObj (.ref g) self) ∧ s'.heap.get? g = some og ∧
      (if (Str.ofString "" == c) = true then ∀ h', Heap.ExtBut D s'.heap h' → Q none { s' with heap := h' } else Q (some r) s')
theorem next_ci {Q : Option Value → Shared → Prop} (hh : A.handled = none) (hD : s.heap.get? D = some (ciO (.ref q) (.str "" t0) false)) (hq : s.heap.get? q = some (methodObj (.ref g) self)) (hg : s.heap.get? g = some og) (hd : og.data = .func fd)
    (h : codeAny (model prog w) A.in1 (.call (.ref g) ⟨[self], []⟩) (fun r s' => match r with | .ok (.ret v) => NextCi D q g og self t0 Q v s' | .ok _ => False | .error _ => False) s) :
    wpAny (model prog w) A (pyNext (.ref D)) Q E s := by
  have hT : s.TypeIs (.ref D) "callable_iterator" := ⟨_, hD, rfl⟩
  unfold pyNext
  refine wpAny_bind (wpAny_attempt (wpAny_callSpecial?_slot (name := Str.ofString "__next__") hT slot_ci_next (wpAny_call_entry slot_ci_next hT entry_ci_next ?_ (args_ci_next _))))
  unfold Builtin.«callable_iterator.__next__»
  refine wpAny_bind (m := slotArgs "__next__" 0 _) (wpAny_of_eq (a := (Value.ref D, [])) (by first | rfl | kernel_rfl!) ?_)
  dsimp only
  refine wpAny_bind (wpAny_field hD rfl (x := .bool false) rfl ?_)
  refine wpAny_bind (wpAny_field hD rfl (x := .ref q) rfl ?_)
  refine wpAny_bind (wpAny_attempt ?_)
  unfold callOutOfASlot
  refine wpAny_bind ((borrows hq hg hd) _ _ _ _ (fun _ _ e => e) ?_)
  show wpAny _ _ (callBorrowed (.ref q) []) _ _ _
  refine wpAny_callBorrowed (wpAny_call (method_call hq ?_))
  refine codeAny_mono h fun r s' z => ?_
  rcases r with e | (v | _ | _ | _) <;> first | exact z.elim | skip
  obtain ⟨c, tc, rfl, hD', hq', hg', z⟩ := z
  dsimp only
  refine wpAny_bind (wpAny_field hD' rfl (x := .bool false) rfl ?_)
  refine wpAny_bind (wpAny_field hD' rfl (x := .str "" t0) rfl ?_)
  refine wpAny_bind (wpAny_holding (eqBool_str ?_))
  by_cases hc : (Str.ofString "" == c) = true
  · rw [if_pos hc] at z
    rw [hc]
    refine wpAny_bind (wpAny_rule (wpAny_bind ?_))
    show wpAny _ _ (field (.ref D) 0 >>= _) _ _ _
    refine wpAny_bind (wpAny_field hD' rfl (x := .ref q) rfl ?_)
    refine wpAny_bind ?_
    show wpAny _ _ (borrowsExactly (.ref q) >>= _) _ _ _
    refine wpAny_bind ((borrows hq' hg' hd) _ _ _ _ (fun _ _ e => e) ?_)
    refine wpAny_pure ?_
    refine wpAny_bind (wpAny_setField_rec hD' (Nat.le_of_ble_eq_true rfl) fun h1 hD1 b1 => ?_)
    refine wpAny_bind (wpAny_setField_rec hD1 (Nat.le_of_ble_eq_true rfl) fun h2 hD2 b2 => ?_)
    refine wpAny_setField_rec hD2 (Nat.le_of_ble_eq_true rfl) fun h3 hD3 b3 => ?_
    have bb : Heap.SameBut D s'.heap h3 := (b1.trans b2).trans b3
    show wpAny _ _ (newExc (.type "StopIteration") [] >>= _) _ _ _
    refine wpAny_bind ?_
    simp only [newExc, newTuple]
    refine wpAny_bind (wpAny_newObj_type ?_ (by size_fits))
    refine wpAny_bind (m := firstArgMember _ _) (wpAny_of_eq (a := Value.none) (by first | rfl | (simp only [firstArgMember]; rfl)) ?_)
    refine wpAny_newObj_type ?_ (by size_fits)
    simp only [raiseNew]
    refine wpAny_bind (wpAny_handled ?_)
    first | rw [show A.in1.handled = none from hh] | rw [hh]
    refine wpAny_bind (wpAny_pure (wpAny_throw ?_))
    refine wpAny_bind (wpAny_isInstance (T := "StopIteration") (b := true) ⟨_, Heap.get?_push_size _ rfl, rfl⟩ stop_sub ?_)
    exact wpAny_pure (z _ (((Heap.SameBut.extBut bb).push _).push _))
  · rw [if_neg hc] at z
    rw [Bool.eq_false_iff.mpr hc]
    exact wpAny_pure ⟨_, rfl, wpAny_pure z⟩
end
end

section
/-- a plain sign: a figure 0 to 6 -/
noncomputable def Pl (c : Nat) : Prop := 48 ≤ c ∧ c ≤ 54
theorem pl_cases {c : Nat} (h : Pl c) {P : Nat → Prop} (h0 : P 48) (h1 : P 49) (h2 : P 50) (h3 : P 51) (h4 : P 52) (h5 : P 53) (h6 : P 54) : P c := by
  have : c = 48 ∨ c = 49 ∨ c = 50 ∨ c = 51 ∨ c = 52 ∨ c = 53 ∨ c = 54 := by unfold Pl at h; omega
  rcases this with rfl | rfl | rfl | rfl | rfl | rfl | rfl <;> assumption
noncomputable def sp : List (Bool × Nat) → List Nat
  | [] => []
  | (true, c) :: r => 92 :: c :: sp r
  | (false, c) :: r => c :: sp r
noncomputable def TokAt (d word left : List Nat) : Prop :=
  (d = [] ∧ word = [] ∧ left = []) ∨ (d = 34 :: (word ++ 34 :: left) ∧ ∀ c ∈ word, Pl c) ∨
  (∃ items ws, items ≠ [] ∧ d = sp items ++ ws :: left ∧ word = items.map Prod.snd ∧ (ws = 9 ∨ ws = 32) ∧ ∀ i ∈ items, Pl i.2)
theorem pins3 {m : Str → Option Value} {a b c : Str} {va vb vc : Value} (ha : m a = some va) (hb : m b = some vb) (hc : m c = some vc) :
    m = fun y => if y = a then some va else if y = b then some vb else if y = c then some vc else m y := by
  funext y
  by_cases e1 : y = a
  · rw [if_pos e1, e1]; exact ha
  · rw [if_neg e1]
    by_cases e2 : y = b
    · rw [if_pos e2, e2]; exact hb
    · rw [if_neg e2]
      by_cases e3 : y = c
      · rw [if_pos e3, e3]; exact hc
      · rw [if_neg e3]
theorem perm5 {h₀ h : Heap} {L : Addr} {a b c d e : Addr × Obj} {r : List (Addr × Obj)} (N : News h₀ L h (a :: b :: c :: d :: e :: r)) : News h₀ L h (d :: e :: a :: b :: c :: r) := fun q hq => N q (by
  simp only [List.mem_cons] at hq ⊢
  rcases hq with h | h | h | h | h | h <;> simp [h])
theorem perm5R {h₀ h : Heap} {L : Addr} {a b c d e : Addr × Obj} {r : List (Addr × Obj)} (N : News h₀ L h (a :: b :: c :: d :: e :: r)) :
    ∃ R2, a ∈ R2 ∧ b ∈ R2 ∧ c ∈ R2 ∧ (∀ q ∈ r, q ∈ R2) ∧ (∀ q ∈ R2, q = a ∨ q = b ∨ q = c ∨ q ∈ r) ∧ News h₀ L h (d :: e :: R2) :=
  ⟨a :: b :: c :: r, .head _, .tail _ (.head _), .tail _ (.tail _ (.head _)), fun _ h => .tail _ (.tail _ (.tail _ h)), fun q hq => by simpa only [List.mem_cons] using hq, perm5 N⟩
theorem perm3 {h₀ h : Heap} {L : Addr} {a b c : Addr × Obj} {r : List (Addr × Obj)} (N : News h₀ L h (a :: b :: c :: r)) : News h₀ L h (c :: a :: b :: r) := fun q hq => N q (by
  simp only [List.mem_cons] at hq ⊢
  rcases hq with h | h | h | h <;> simp [h])
theorem back3 {h₀ h : Heap} {L : Addr} {a b c : Addr × Obj} {r R2 : List (Addr × Obj)} (N : News h₀ L h (a :: b :: R2)) (hc : c ∈ R2) (hr : ∀ q ∈ r, q ∈ R2) : News h₀ L h (c :: a :: b :: r) := fun q hq => N q (by
  simp only [List.mem_cons] at hq ⊢
  rcases hq with h | h | h | h
  · subst h; exact .inr (.inr hc)
  · exact .inl h
  · exact .inr (.inl h)
  · exact .inr (.inr (hr q h)))
theorem News.sub {h₀ h : Heap} {L : Addr} {a r : List (Addr × Obj)} (N : News h₀ L h a) (hs : ∀ q ∈ r, q ∈ a) : News h₀ L h r := fun q hq => N q (hs q hq)
theorem e_ne {c : Nat} : (Str.ofString "" == (⟨#[c]⟩ : Str)) = false := by
  rw [beq_eq_false_iff_ne]
  intro h
  have h2 : (Str.ofString "").cps.size = 1 := congrArg (fun x => x.cps.size) h
  exact absurd h2 (by decide +kernel)
end

section
noncomputable def ch1 (c : Nat) : Str := ⟨#[c]⟩
noncomputable def tkS (u : List Nat) : Str := ⟨u.toArray⟩
noncomputable def wsB (c : Nat) : Bool := !(Builtin.Str.occurrences (Str.ofString "\n\t\r ") (ch1 c) 0 (Str.ofString "\n\t\r ").length 1).isEmpty
noncomputable def quB (c : Nat) : Bool := ch1 c == Str.ofString "\""
noncomputable def bsB (c : Nat) : Bool := ch1 c == Str.ofString "\\"
theorem ws_pl {c : Nat} (h : Pl c) : wsB c = false := pl_cases h (P := fun c => wsB c = false) (by decide +kernel) (by decide +kernel) (by decide +kernel) (by decide +kernel) (by decide +kernel) (by decide +kernel) (by decide +kernel)
theorem qu_pl {c : Nat} (h : Pl c) : quB c = false := pl_cases h (P := fun c => quB c = false) (by decide +kernel) (by decide +kernel) (by decide +kernel) (by decide +kernel) (by decide +kernel) (by decide +kernel) (by decide +kernel)
theorem bs_pl {c : Nat} (h : Pl c) : bsB c = false := pl_cases h (P := fun c => bsB c = false) (by decide +kernel) (by decide +kernel) (by decide +kernel) (by decide +kernel) (by decide +kernel) (by decide +kernel) (by decide +kernel)
section
variable {prog : Program} {w : World} {A : Around} {E : Value → Shared → Prop} {s : Shared} {c : Nat} {t u : Tok} {b : Bool}
theorem in_ws {Q : Value → Shared → Prop} (hb : wsB c = b) (h : Q (.bool b) s) : wpAny (model prog w) A (compareOp .In (.str (ch1 c) u) (.str (Str.ofString "\n\t\r ") t)) Q E s := in_str (by rw [← hb] at h; exact h)
theorem eq_qu {Q : Value → Shared → Prop} (hb : quB c = b) (h : Q (.bool b) s) : wpAny (model prog w) A (compareOp .Eq (.str (ch1 c) u) (.str (Str.ofString "\"") t)) Q E s := eq_str (by rw [← hb] at h; exact h)
theorem eq_bs {Q : Value → Shared → Prop} (hb : bsB c = b) (h : Q (.bool b) s) : wpAny (model prog w) A (compareOp .Eq (.str (ch1 c) u) (.str (Str.ofString "\\") t)) Q E s := eq_str (by rw [← hb] at h; exact h)
theorem add_tk {z : List Nat} {Q : Value → Shared → Prop} (hz : z.length ≤ 1000) (h : ∀ t' tk, Q (.str (tkS (z ++ [c])) t') { s with toks := tk }) : wpAny (model prog w) A (inplaceOp .Add (.str (tkS z) t) (.str (ch1 c) u)) Q E s := by
  have e : tkS z ++ ch1 c = tkS (z ++ [c]) := by
    show (⟨z.toArray ++ #[c]⟩ : Str) = ⟨(z ++ [c]).toArray⟩
    simp
  refine iadd_str ?_ ?_
  · rw [e]; exact h
  · have : (tkS z).length = z.length := List.size_toArray
    have : (ch1 c).length = 1 := rfl
    rw [sizeLine_eq]; omega
theorem add_tk0 {Q : Value → Shared → Prop} (h : ∀ t' tk, Q (.str (tkS [c]) t') { s with toks := tk }) : wpAny (model prog w) A (inplaceOp .Add (.str (Str.ofString "") t) (.str (ch1 c) u)) Q E s := by
  have e : Str.ofString "" = tkS [] := by decide +kernel
  rw [e]
  exact add_tk (Nat.zero_le _) h
end
end

section
theorem one_some {cz : List Nat} {p c : Nat} {rs : List Nat} (h : cz.drop p = c :: rs) : one cz p = ch1 c := by unfold one; rw [h]; rfl
theorem nl_pl {c : Nat} (h : Pl c) : nlc (ch1 c) = 0 := pl_cases h (P := fun c => nlc (ch1 c) = 0) (by decide +kernel) (by decide +kernel) (by decide +kernel) (by decide +kernel) (by decide +kernel) (by decide +kernel) (by decide +kernel)
theorem one_none {cz : List Nat} {p : Nat} (h : cz.drop p = []) : one cz p = ⟨#[]⟩ := by unfold one; rw [h]; rfl
theorem drop_next {cz : List Nat} {p c : Nat} {rs : List Nat} (h : cz.drop p = c :: rs) : cz.drop (p + 1) = rs := by
  rw [← List.drop_drop, h]; rfl
section
variable (w : World) (mean : ExcName → Option Value) (mg mb : Str → Option Value) (cz : List Nat) (lx dl fdd fs rd l pb : Nat) (fdx : FuncData) (k1 k2 k3 k4 tl tw kr tp : Tok) (ln : Int) (p n : Nat) (fr : FuncData) (fix rest : List (Addr × Obj))
/-- the lexer's fixed part lies in the ledger -/
structure LexIn : Prop where
  R : RdOk w mean mg mb cz rd l fix
  h1 : (lx, instObj 101 dl) ∈ rest
  h2 : (fdd, dictOf [⟨PyData.keyHash w.params "read", .str "read" kr, .ref rd⟩] 1) ∈ rest
  h3 : (fs, fnD fdx #[] (some fdd)) ∈ rest
  h4 : (rd, fnD fr #[] none) ∈ rest
  hf : ∀ q ∈ fix, q ∈ rest
  n1 : ∀ q ∈ rest, q.1 ≠ dl
  n2 : ∀ q ∈ rest, q.1 ≠ l
  n3 : dl ≠ l
theorem read_char_some {c : Nat} {rs : List Nat} (hc : cz.drop p = c :: rs) (I : LexIn w mean mg mb cz lx dl fdd fs rd l fdx kr fr fix rest) :
   ConK w mean mg mb 84 ((dl, lexD w k1 k2 k3 k4 tl tw ln fs pb) :: (l, listOf #[.int (p : Int) tp] n) :: rest) [.ref lx] 3
     (fun news' v => ∃ t1 t2 n' tl', v = .str (ch1 c) t1 ∧ news' = (dl, lexD w k1 k2 k3 k4 tl' tw (ln + nlc (ch1 c)) fs pb) :: (l, listOf #[.int ((p + 1 : Nat) : Int) t2] n') :: rest) := by
  have z := read_char_conK w mean mg mb cz lx dl fdd fs rd l pb fdx k1 k2 k3 k4 tl tw kr tp ln p n fr fix rest I.R I.h1 I.h2 I.h3 I.h4 I.hf I.n1 I.n2 I.n3
  rw [one_some hc] at z
  exact z
theorem read_char_none (hc : cz.drop p = []) (I : LexIn w mean mg mb cz lx dl fdd fs rd l fdx kr fr fix rest) :
   ConK w mean mg mb 84 ((dl, lexD w k1 k2 k3 k4 tl tw ln fs pb) :: (l, listOf #[.int (p : Int) tp] n) :: rest) [.ref lx] 3
     (fun news' v => ∃ t1 t2 n' tl', v = .str ⟨#[]⟩ t1 ∧ news' = (dl, lexD w k1 k2 k3 k4 tl' tw ln fs pb) :: (l, listOf #[.int (p : Int) t2] n') :: rest) := by
  have z := read_char_conK w mean mg mb cz lx dl fdd fs rd l pb fdx k1 k2 k3 k4 tl tw kr tp ln p n fr fix rest I.R I.h1 I.h2 I.h3 I.h4 I.hf I.n1 I.n2 I.n3
  rw [one_none hc] at z
  have e1 : ln + nlc ⟨#[]⟩ = ln := by rw [show nlc ⟨#[]⟩ = 0 by decide +kernel]; exact Int.add_zero _
  have e2 : (p : Int) + ((⟨#[]⟩ : Str).length : Int) = p := Int.add_zero _
  rw [e1, e2] at z
  exact z
end
section
variable {w : World} {mean : ExcName → Option Value} {mg mb : Str → Option Value} {cz : List Nat} {lx dl fdd fs rd l pb : Nat} {fdx : FuncData} {k1 k2 k3 k4 tl tw kr tp t0 : Tok} {ln : Int} {p n : Nat} {fr : FuncData} {fix rest : List (Addr × Obj)}
  {pr : Program} {ls : List Str} {dp un : Nat} {gd : Option (List Code)} {cn : Str} {cs : Scope} {a : Addr} {ccd : Value} {cl : List (Str × Addr)} {outer : List Env} {A₀ : Around} {base h₀ : Heap} {L D q : Addr} {m : Str → Option Value} {s : Shared} {E : Value → Shared → Prop}
theorem fn84 {h : Heap} {P : Params} (X : (hd.heap_1 P).In h) : ∃ og fd, h.get? 84 = some og ∧ og.data = .func fd := ⟨_, _, X 84 _ rfl, rfl⟩
theorem tok_some {Q : Option Value → Shared → Prop} {c : Nat} {rs : List Nat} (hc : cz.drop p = c :: rs) (hc0 : (Str.ofString "" == ch1 c) = false) (I : LexIn w mean mg mb cz lx dl fdd fs rd l fdx kr fr fix rest)
    (HC : CodeHd base 111 107) (B : Below A₀ base outer h₀) (F : Fr h₀ L s.heap m) (X : (hd.heap_1 w.params).In h₀) (N : News h₀ L s.heap ((dl, lexD w k1 k2 k3 k4 tl tw ln fs pb) :: (l, listOf #[.int (p : Int) tp] n) :: rest))
    (T : Top pr ls mean mg mb h₀) (hk : cs.kind = .function) (hd : Rm dp 3) (hu : Un un 4)
    (mD : (D, ciO (.ref q) (.str "" t0) false) ∈ rest) (mq : (q, methodObj (.ref 84) (.ref lx)) ∈ rest)
    (h : ∀ t1 t2 n' tl' h' tk', Fr h₀ L h' m → News h₀ L h' ((dl, lexD w k1 k2 k3 k4 tl' tw (ln + nlc (ch1 c)) fs pb) :: (l, listOf #[.int ((p + 1 : Nat) : Int) t2] n') :: rest) → Q (some (.str (ch1 c) t1)) { s with heap := h', toks := tk' }) :
    wpAny (model PySem.Challenge.rw_pg0139_01.row.prog w) (ktrTop dp un gd cn cs L a ccd cl outer) (pyNext (.ref D)) Q E s := by
  have mD' := List.Mem.tail (dl, lexD w k1 k2 k3 k4 tl tw ln fs pb) (List.Mem.tail (l, listOf #[.int (p : Int) tp] n) mD)
  have mq' := List.Mem.tail (dl, lexD w k1 k2 k3 k4 tl tw ln fs pb) (List.Mem.tail (l, listOf #[.int (p : Int) tp] n) mq)
  obtain ⟨og, fd, hg, hgd⟩ := fn84 X
  refine next_ci rfl (N _ mD').1 (N _ mq').1 (F.keep _ _ hg) hgd ?_
  refine (read_char_some w mean mg mb cz lx dl fdd fs rd l pb fdx k1 k2 k3 k4 tl tw kr tp ln p n fr fix rest hc I) pr ls dp (un + 1) gd cn cs a ccd cl outer A₀ base h₀ L m s _ (fun _ _ => False) HC B F X N T hk hd hu.one ?_
  rintro v news' h' tk' F' N' ⟨t1, t2, n', tl', rfl, rfl⟩
  refine ⟨_, _, rfl, (N' _ (.tail _ (.tail _ mD))).1, (N' _ (.tail _ (.tail _ mq))).1, F'.keep _ _ hg, ?_⟩
  rw [if_neg (by rw [hc0]; decide)]
  exact h _ _ _ _ _ _ F' N'
theorem tok_none {Q : Option Value → Shared → Prop} {rest' : List (Addr × Obj)} (hc : cz.drop p = []) (I : LexIn w mean mg mb cz lx dl fdd fs rd l fdx kr fr fix rest)
    (HC : CodeHd base 111 107) (B : Below A₀ base outer h₀) (F : Fr h₀ L s.heap m) (X : (hd.heap_1 w.params).In h₀) (N : News h₀ L s.heap ((dl, lexD w k1 k2 k3 k4 tl tw ln fs pb) :: (l, listOf #[.int (p : Int) tp] n) :: rest))
    (T : Top pr ls mean mg mb h₀) (hk : cs.kind = .function) (hd : Rm dp 3) (hu : Un un 4)
    (mD : (D, ciO (.ref q) (.str "" t0) false) ∈ rest) (mq : (q, methodObj (.ref 84) (.ref lx)) ∈ rest) (hr : ∀ x ∈ rest', x ∈ rest ∧ x.1 ≠ D)
    (h : ∀ t2 n' tl' h' tk', Fr h₀ L h' m → News h₀ L h' ((dl, lexD w k1 k2 k3 k4 tl' tw ln fs pb) :: (l, listOf #[.int (p : Int) t2] n') :: rest') → Q none { s with heap := h', toks := tk' }) :
    wpAny (model PySem.Challenge.rw_pg0139_01.row.prog w) (ktrTop dp un gd cn cs L a ccd cl outer) (pyNext (.ref D)) Q E s := by
  have mD' := List.Mem.tail (dl, lexD w k1 k2 k3 k4 tl tw ln fs pb) (List.Mem.tail (l, listOf #[.int (p : Int) tp] n) mD)
  have mq' := List.Mem.tail (dl, lexD w k1 k2 k3 k4 tl tw ln fs pb) (List.Mem.tail (l, listOf #[.int (p : Int) tp] n) mq)
  obtain ⟨og, fd, hg, hgd⟩ := fn84 X
  refine next_ci rfl (N _ mD').1 (N _ mq').1 (F.keep _ _ hg) hgd ?_
  refine (read_char_none w mean mg mb cz lx dl fdd fs rd l pb fdx k1 k2 k3 k4 tl tw kr tp ln p n fr fix rest hc I) pr ls dp (un + 1) gd cn cs a ccd cl outer A₀ base h₀ L m s _ (fun _ _ => False) HC B F X N T hk hd hu.one ?_
  rintro v news' h' tk' F' N' ⟨t1, t2, n', tl', rfl, rfl⟩
  refine ⟨_, _, rfl, (N' _ (.tail _ (.tail _ mD))).1, (N' _ (.tail _ (.tail _ mq))).1, F'.keep _ _ hg, ?_⟩
  rw [if_pos (by decide +kernel)]
  intro h2 hx
  have zD := (N' _ (.tail _ (.tail _ mD))).2
  refine h t2 n' tl' _ _ (LCg.fr_but F' (fun b o hb e => hx b o (by simpa using hb) e) (Ne.symm zD.1) zD.2) ?_
  intro x hx'
  have nd : x.1 ≠ D := by
    rcases List.mem_cons.mp hx' with rfl | hx'
    · exact fun e => I.n1 _ mD e.symm
    · rcases List.mem_cons.mp hx' with rfl | hx'
      · exact fun e => I.n2 _ mD e.symm
      · exact (hr x hx').2
  have mx : x ∈ (dl, lexD w k1 k2 k3 k4 tl' tw ln fs pb) :: (l, listOf #[.int (p : Int) t2] n') :: rest := by
    rcases List.mem_cons.mp hx' with rfl | hx'
    · exact .head _
    · rcases List.mem_cons.mp hx' with rfl | hx'
      · exact .tail _ (.head _)
      · exact .tail _ (.tail _ (hr x hx').1)
  exact ⟨hx _ _ nd (N' x mx).1, (N' x mx).2⟩
end
end

section
local macro_rules | `(tactic| k_all) => `(tactic| first | assumption | exact ne_AllLt (by assumption) (by omega))
local macro_rules | `(tactic| k_mem) => `(tactic| first | assumption | exact List.Mem.head _ | exact List.Mem.tail _ (List.Mem.head _) | exact List.Mem.tail _ (List.Mem.tail _ (List.Mem.head _)) | exact List.Mem.tail _ (by assumption) | exact List.Mem.tail _ (List.Mem.tail _ (by assumption)) | exact List.Mem.tail _ (List.Mem.tail _ (List.Mem.tail _ (by assumption))))
theorem token_con (w : World) (mean : ExcName → Option Value) (mg mb : Str → Option Value) (cz : List Nat) (lx dl fdd fs rd l pb : Nat) (fdx : FuncData) (k1 k2 k3 k4 tl tw kr tp : Tok) (ln LN : Int) (p n e : Nat) (fr : FuncData) (fix rest : List (Addr × Obj))
   (I : LexIn w mean mg mb cz lx dl fdd fs rd l fdx kr fr fix rest) (n4 : ∀ q ∈ rest, q.1 ≠ pb) (n5 : pb ≠ dl) (n6 : pb ≠ l) (n₀ : Nat) (d word left : List Nat) (hd9 : (n₀ = 1 ∧ cz.drop p = 10 :: d ∧ LN = ln + 1) ∨ (n₀ = 0 ∧ cz.drop p = d ∧ LN = ln)) (ht9 : TokAt d word left) (hw9 : word.length ≤ 10) :
   ConC w mean mg mb 91 ((pb, listOf #[] e) :: (dl, lexD w k1 k2 k3 k4 tl tw ln fs pb) :: (l, listOf #[.int (p : Int) tp] n) :: rest) [.ref lx] 5
     (fun news' v => ∃ t1 t2 n' tl' p', cz.drop p' = left ∧ v = .str ⟨word.toArray⟩ t1 ∧ news' = (pb, listOf #[] e) :: (dl, lexD w k1 k2 k3 k4 tl' tw LN fs pb) :: (l, listOf #[.int ((p' : Nat) : Int) t2] n') :: rest) := by
  obtain ⟨R, h1, h2, h3, h4, hf, n1, n2, n3⟩ := id I
  unfold ConC; k_fill
  intro pr ls dp un gd cn cs a ccd cl outer A₀ base h₀ L m s Q E HC B F X N T hk hd hu hret
  ((refine wpAny_call ?_; k_dflt ktr_enter; refine acut ?_; intro _))
  (repeat' ((fail_if_success (with_reducible show wpAny _ _ (exec (Stmt.For _ _ _ _ _) _) _ _ _)); (fail_if_success (with_reducible show codeAny _ _ (Code.forLoop _ _ _ _ _) _ _)); first | (k_unfold; (try dsimp only)) | (k_end; wrow_close) | (with_reducible ((k_here; (with_reducible show wpAny _ _ (call (Value.ref 84) _) _ _ _); k_dflt (refine' (ConK.c (read_char_some _ _ _ _ _ _ _ _ _ _ _ _ _ _ _ _ _ _ _ _ _ _ _ _ _ _ _ ?ka ?kb)) _ _ _ _ _ _ _ _ _ _ _ _ _ _ _ _ _ _ _ ?k0 ?k1 ?k2 ?k3 ?k4 ?k5 ?kK ?kd ?ku ?_; (((case k0 => assumption); (case k1 => first | k_asm | ktn_no "the frames below"); (case k2 => first | k_asm | ktn_no "the frame"); (case k3 => first | k_asm | ktn_no "the written part"); (case k4 => first | k_asm | ktn_no "the ledger"); (case k5 => first | k_asm | ktn_no "the top"); (case kK => first | exact rfl | assumption | ktn_no "no def"); (case kd => first | ktr_room | ktn_no "the room"); (case ku => first | ktr_units | ktn_no "the units"))); (case kb => assumption); (case ka => assumption)); intro v' news' h' tk' F' N' hr'; obtain ⟨t1', t2', n', tl', hv', hn'⟩ := hr'; subst hv'; subst hn'))) | (with_reducible ((k_here; (with_reducible show wpAny _ _ (inplaceOp _ (Value.str (tkS _) _) (Value.str (ch1 _) _)) _ _ _); k_dflt (refine' add_tk ?k1 ?_; (case k1 => omega)); intro t' tk'))) | (with_reducible ((k_here; (with_reducible show wpAny _ _ (inplaceOp _ (Value.str (Str.ofString "") _) (Value.str (ch1 _) _)) _ _ _); k_dflt (refine' add_tk0 ?_); intro t' tk'))) | (with_reducible ((k_here; (with_reducible show wpAny _ _ (compareOp _ (Value.str (ch1 _) _) (Value.str (Str.ofString "\\") _)) _ _ _); k_dflt (refine' eq_bs ?k1 ?_; (case k1 => assumption); k_whole)))) | (with_reducible ((k_here; (with_reducible show wpAny _ _ (compareOp _ (Value.str (ch1 _) _) (Value.str (Str.ofString "\"") _)) _ _ _); k_dflt (refine' eq_qu ?k1 ?_; (case k1 => assumption); k_whole)))) | (with_reducible ((k_here; (with_reducible show wpAny _ _ (compareOp _ (Value.str (ch1 _) _) (Value.str _ _)) _ _ _); k_dflt (refine' in_ws ?k1 ?_; (case k1 => assumption); k_whole)))) | ((with_reducible show wpAny _ _ (pyIter (Value.ref _)) _ _ _); with_reducible ((k_here; k_dflt (refine' again_ci ?k1 ?_; (case k1 => exact News.get (by k_asm) (by k_mem)); k_whole)))) | ((with_reducible show wpAny _ _ (call (Value.builtin "iter") _) _ _ _); with_reducible ((k_here; (with_reducible show wpAny _ _ (call (Value.builtin _) [Value.ref _, Value.str _ _]) _ _ _); k_dflt (refine' iter_ci ?F ?N ?q ?_; (case F => k_asm); (case N => k_asm); (case q => k_mem)); intro D' h' F' N' l1; (try k_lt l1)))) | ((with_reducible show wpAny _ _ (execs (_ :: _) _) _ _ _); with_reducible ((refine execs_cut ?_; intro _ _))) | ((with_reducible show wpAny _ _ (callWith _ (Value.ref _) _ _ _) _ _ _); with_reducible ((k_here; k_dflt (first | (refine' callWith_K ?k1 ?k2 ?_; (case k1 => k_asm); (case k2 => k_is); k_whole) | (refine' callWith_K0 ?k1 ?k2 ?_; (case k1 => k_in); (case k2 => k_is); k_whole))))) | ((with_reducible show wpAny _ _ (binaryOp .Mult (Value.int _ _) (Value.float _ _)) _ _ _); with_reducible ((k_here; k_dflt (refine' mulif_safe ?k1 ?_; (case k1 => omega); k_whole)))) | ((with_reducible show wpAny _ _ (binaryOp .Mult (Value.float _ _) (Value.int _ _)) _ _ _); with_reducible ((k_here; k_dflt (refine' mulfi_safe ?k1 ?_; (case k1 => omega); k_whole)))) | ((with_reducible show wpAny _ _ (binaryOp .Mod (Value.float _ _) (Value.float _ _)) _ _ _); with_reducible ((k_here; k_dflt (refine' fmod_safe ?k1 ?k2 ?_; (case k1 => with_unfolding_all rfl); (case k2 => decide +kernel); k_whole)))) | ((with_reducible show wpAny _ _ (binaryOp .Div (Value.float _ _) (Value.float _ _)) _ _ _); with_reducible ((k_here; k_dflt (refine' fdiv_safe ?k1 ?k2 ?_; (case k1 => with_unfolding_all rfl); (case k2 => decide +kernel); k_whole)))) | ((with_reducible show wpAny _ _ (binaryOp .Div (Value.int _ _) (Value.int _ _)) _ _ _); with_reducible ((k_here; k_dflt (refine' div_safe ?k1 ?k2 ?k3 ?_; (case k1 => with_unfolding_all rfl); (case k2 => omega); (case k3 => omega); k_whole)))) | ((with_reducible show wpAny _ _ (call (Value.builtin "min") _) _ _ _); with_reducible ((k_here; (with_reducible show wpAny _ _ (call (Value.builtin _) [Value.int _ _, Value.int _ _, Value.int _ _]) _ _ _); k_dflt (refine' min3_N ?k1 ?k2 ?k3 ?_; (case k1 => with_unfolding_all rfl); (case k2 => k_asm); (case k3 => k_asm); k_whole); intro h' tk' tt' F' N'; (try k_sweep)))) | ((with_reducible show wpAny _ _ (call (Value.builtin "max") _) _ _ _); with_reducible ((k_here; (with_reducible show wpAny _ _ (call (Value.builtin _) [Value.int _ _, Value.int _ _, Value.int _ _]) _ _ _); k_dflt (refine' max3_N ?k1 ?k2 ?k3 ?_; (case k1 => with_unfolding_all rfl); (case k2 => k_asm); (case k3 => k_asm); k_whole); intro h' tk' tt' F' N'; (try k_sweep)))) | walk1 | dsimp only | (leave1; walk_say "STEP leave1"; try dsimp only) | fail "no step"))
  refine wpAny_For ?_
  (repeat' ((fail_if_success (with_reducible show wpAny _ _ (exec (Stmt.For _ _ _ _ _) _) _ _ _)); (fail_if_success (with_reducible show codeAny _ _ (Code.forLoop _ _ _ _ _) _ _)); first | (k_unfold; (try dsimp only)) | (k_end; wrow_close) | (with_reducible ((k_here; (with_reducible show wpAny _ _ (call (Value.ref 84) _) _ _ _); k_dflt (refine' (ConK.c (read_char_some _ _ _ _ _ _ _ _ _ _ _ _ _ _ _ _ _ _ _ _ _ _ _ _ _ _ _ ?ka ?kb)) _ _ _ _ _ _ _ _ _ _ _ _ _ _ _ _ _ _ _ ?k0 ?k1 ?k2 ?k3 ?k4 ?k5 ?kK ?kd ?ku ?_; (((case k0 => assumption); (case k1 => first | k_asm | ktn_no "the frames below"); (case k2 => first | k_asm | ktn_no "the frame"); (case k3 => first | k_asm | ktn_no "the written part"); (case k4 => first | k_asm | ktn_no "the ledger"); (case k5 => first | k_asm | ktn_no "the top"); (case kK => first | exact rfl | assumption | ktn_no "no def"); (case kd => first | ktr_room | ktn_no "the room"); (case ku => first | ktr_units | ktn_no "the units"))); (case kb => assumption); (case ka => assumption)); intro v' news' h' tk' F' N' hr'; obtain ⟨t1', t2', n', tl', hv', hn'⟩ := hr'; subst hv'; subst hn'))) | (with_reducible ((k_here; (with_reducible show wpAny _ _ (inplaceOp _ (Value.str (tkS _) _) (Value.str (ch1 _) _)) _ _ _); k_dflt (refine' add_tk ?k1 ?_; (case k1 => omega)); intro t' tk'))) | (with_reducible ((k_here; (with_reducible show wpAny _ _ (inplaceOp _ (Value.str (Str.ofString "") _) (Value.str (ch1 _) _)) _ _ _); k_dflt (refine' add_tk0 ?_); intro t' tk'))) | (with_reducible ((k_here; (with_reducible show wpAny _ _ (compareOp _ (Value.str (ch1 _) _) (Value.str (Str.ofString "\\") _)) _ _ _); k_dflt (refine' eq_bs ?k1 ?_; (case k1 => assumption); k_whole)))) | (with_reducible ((k_here; (with_reducible show wpAny _ _ (compareOp _ (Value.str (ch1 _) _) (Value.str (Str.ofString "\"") _)) _ _ _); k_dflt (refine' eq_qu ?k1 ?_; (case k1 => assumption); k_whole)))) | (with_reducible ((k_here; (with_reducible show wpAny _ _ (compareOp _ (Value.str (ch1 _) _) (Value.str _ _)) _ _ _); k_dflt (refine' in_ws ?k1 ?_; (case k1 => assumption); k_whole)))) | ((with_reducible show wpAny _ _ (pyIter (Value.ref _)) _ _ _); with_reducible ((k_here; k_dflt (refine' again_ci ?k1 ?_; (case k1 => exact News.get (by k_asm) (by k_mem)); k_whole)))) | ((with_reducible show wpAny _ _ (call (Value.builtin "iter") _) _ _ _); with_reducible ((k_here; (with_reducible show wpAny _ _ (call (Value.builtin _) [Value.ref _, Value.str _ _]) _ _ _); k_dflt (refine' iter_ci ?F ?N ?q ?_; (case F => k_asm); (case N => k_asm); (case q => k_mem)); intro D' h' F' N' l1; (try k_lt l1)))) | ((with_reducible show wpAny _ _ (execs (_ :: _) _) _ _ _); with_reducible ((refine execs_cut ?_; intro _ _))) | ((with_reducible show wpAny _ _ (callWith _ (Value.ref _) _ _ _) _ _ _); with_reducible ((k_here; k_dflt (first | (refine' callWith_K ?k1 ?k2 ?_; (case k1 => k_asm); (case k2 => k_is); k_whole) | (refine' callWith_K0 ?k1 ?k2 ?_; (case k1 => k_in); (case k2 => k_is); k_whole))))) | ((with_reducible show wpAny _ _ (binaryOp .Mult (Value.int _ _) (Value.float _ _)) _ _ _); with_reducible ((k_here; k_dflt (refine' mulif_safe ?k1 ?_; (case k1 => omega); k_whole)))) | ((with_reducible show wpAny _ _ (binaryOp .Mult (Value.float _ _) (Value.int _ _)) _ _ _); with_reducible ((k_here; k_dflt (refine' mulfi_safe ?k1 ?_; (case k1 => omega); k_whole)))) | ((with_reducible show wpAny _ _ (binaryOp .Mod (Value.float _ _) (Value.float _ _)) _ _ _); with_reducible ((k_here; k_dflt (refine' fmod_safe ?k1 ?k2 ?_; (case k1 => with_unfolding_all rfl); (case k2 => decide +kernel); k_whole)))) | ((with_reducible show wpAny _ _ (binaryOp .Div (Value.float _ _) (Value.float _ _)) _ _ _); with_reducible ((k_here; k_dflt (refine' fdiv_safe ?k1 ?k2 ?_; (case k1 => with_unfolding_all rfl); (case k2 => decide +kernel); k_whole)))) | ((with_reducible show wpAny _ _ (binaryOp .Div (Value.int _ _) (Value.int _ _)) _ _ _); with_reducible ((k_here; k_dflt (refine' div_safe ?k1 ?k2 ?k3 ?_; (case k1 => with_unfolding_all rfl); (case k2 => omega); (case k3 => omega); k_whole)))) | ((with_reducible show wpAny _ _ (call (Value.builtin "min") _) _ _ _); with_reducible ((k_here; (with_reducible show wpAny _ _ (call (Value.builtin _) [Value.int _ _, Value.int _ _, Value.int _ _]) _ _ _); k_dflt (refine' min3_N ?k1 ?k2 ?k3 ?_; (case k1 => with_unfolding_all rfl); (case k2 => k_asm); (case k3 => k_asm); k_whole); intro h' tk' tt' F' N'; (try k_sweep)))) | ((with_reducible show wpAny _ _ (call (Value.builtin "max") _) _ _ _); with_reducible ((k_here; (with_reducible show wpAny _ _ (call (Value.builtin _) [Value.int _ _, Value.int _ _, Value.int _ _]) _ _ _); k_dflt (refine' max3_N ?k1 ?k2 ?k3 ?_; (case k1 => with_unfolding_all rfl); (case k2 => k_asm); (case k3 => k_asm); k_whole); intro h' tk' tt' F' N'; (try k_sweep)))) | walk1 | dsimp only | (leave1; walk_say "STEP leave1"; try dsimp only) | fail "no step"))
  rename_i q9 _ lq _ F1 N1 _ _
  obtain ⟨D9, hD9⟩ : ∃ D9, D9 = D' := ⟨_, rfl⟩
  subst hD9
  have lD := l1
  clear l1
  obtain ⟨R2, mD, mq, mpb, hrR, hR2, N2⟩ := perm5R N1
  clear N1
  have g1 := hrR _ h1
  have nD : ∀ q ∈ rest, q.1 ≠ D9 := ne_of_AllLt lD.2.2.2.2
  have I2 : LexIn w mean mg mb cz lx dl fdd fs rd l fdx kr fr fix R2 := ⟨R, hrR _ h1, hrR _ h2, hrR _ h3, hrR _ h4, fun q hq => hrR _ (hf q hq),
    fun q hq => by rcases hR2 q hq with rfl | rfl | rfl | h; exact Nat.ne_of_gt lD.2.2.1; exact Nat.ne_of_gt lq.2.1; exact n5; exact n1 q h,
    fun q hq => by rcases hR2 q hq with rfl | rfl | rfl | h; exact Nat.ne_of_gt lD.2.2.2.1; exact Nat.ne_of_gt lq.2.2.1; exact n6; exact n2 q h, n3⟩
  refine for_own (fun n1 m1 news1 => ∃ (m' : Str → Option Value) (p' n' : Nat) (tl' t2' t3' : Tok) (ln' : Int), m1 = (fun y => if y = Str.ofString "self" then some (.ref lx) else if y = Str.ofString "token" then some (.str (Str.ofString "") t3') else if y = Str.ofString "fiter" then some (.ref D9) else m' y) ∧
      news1 = (dl, lexD w k1 k2 k3 k4 tl' tw ln' fs pb) :: (l, listOf #[.int (p' : Int) t2'] n') :: R2 ∧ ((n1 = 1 ∧ cz.drop p' = 10 :: d ∧ LN = ln' + 1) ∨ (n1 = 0 ∧ cz.drop p' = d ∧ LN = ln')))
    F1 N2 (n₀ := n₀) ⟨_, p, _, _, _, _, _, pins3 rfl rfl rfl, rfl, hd9⟩ ?_ (by passes_own) (by intro _; rfl)
  clear F1 N2
  intro n1 m1 news1 h1 tk1 F2 N2 J W9
  obtain ⟨m', p', n', tl', t2', t3', ln', rfl, rfl, J⟩ := J
  rcases J with ⟨rfl, hp', hL'⟩ | ⟨rfl, hp', hL'⟩
  · refine tok_some hp' e_ne I2 (by k_asm) (by k_asm) F2 (by k_asm) N2 (by k_asm) rfl (by ktr_room) (by ktr_units) mD mq ?_
    intro t1 t2 n2 tl2 h3 tk3 F3 N3
    clear F2 N2
    have b1 : wsB 10 = true := by decide +kernel
    dsimp only
    (repeat' ((fail_if_success (with_reducible show wpAny _ _ (exec (Stmt.For _ _ _ _ _) _) _ _ _)); (fail_if_success (with_reducible show codeAny _ _ (Code.forLoop _ _ _ _ _) _ _)); first | (k_unfold; (try dsimp only)) | (k_end; wrow_close) | (with_reducible ((k_here; (with_reducible show wpAny _ _ (call (Value.ref 84) _) _ _ _); k_dflt (refine' (ConK.c (read_char_some _ _ _ _ _ _ _ _ _ _ _ _ _ _ _ _ _ _ _ _ _ _ _ _ _ _ _ ?ka ?kb)) _ _ _ _ _ _ _ _ _ _ _ _ _ _ _ _ _ _ _ ?k0 ?k1 ?k2 ?k3 ?k4 ?k5 ?kK ?kd ?ku ?_; (((case k0 => assumption); (case k1 => first | k_asm | ktn_no "the frames below"); (case k2 => first | k_asm | ktn_no "the frame"); (case k3 => first | k_asm | ktn_no "the written part"); (case k4 => first | k_asm | ktn_no "the ledger"); (case k5 => first | k_asm | ktn_no "the top"); (case kK => first | exact rfl | assumption | ktn_no "no def"); (case kd => first | ktr_room | ktn_no "the room"); (case ku => first | ktr_units | ktn_no "the units"))); (case kb => assumption); (case ka => assumption)); intro v' news' h' tk' F' N' hr'; obtain ⟨t1', t2', n', tl', hv', hn'⟩ := hr'; subst hv'; subst hn'))) | (with_reducible ((k_here; (with_reducible show wpAny _ _ (inplaceOp _ (Value.str (tkS _) _) (Value.str (ch1 _) _)) _ _ _); k_dflt (refine' add_tk ?k1 ?_; (case k1 => omega)); intro t' tk'))) | (with_reducible ((k_here; (with_reducible show wpAny _ _ (inplaceOp _ (Value.str (Str.ofString "") _) (Value.str (ch1 _) _)) _ _ _); k_dflt (refine' add_tk0 ?_); intro t' tk'))) | (with_reducible ((k_here; (with_reducible show wpAny _ _ (compareOp _ (Value.str (ch1 _) _) (Value.str (Str.ofString "\\") _)) _ _ _); k_dflt (refine' eq_bs ?k1 ?_; (case k1 => assumption); k_whole)))) | (with_reducible ((k_here; (with_reducible show wpAny _ _ (compareOp _ (Value.str (ch1 _) _) (Value.str (Str.ofString "\"") _)) _ _ _); k_dflt (refine' eq_qu ?k1 ?_; (case k1 => assumption); k_whole)))) | (with_reducible ((k_here; (with_reducible show wpAny _ _ (compareOp _ (Value.str (ch1 _) _) (Value.str _ _)) _ _ _); k_dflt (refine' in_ws ?k1 ?_; (case k1 => assumption); k_whole)))) | ((with_reducible show wpAny _ _ (pyIter (Value.ref _)) _ _ _); with_reducible ((k_here; k_dflt (refine' again_ci ?k1 ?_; (case k1 => exact News.get (by k_asm) (by k_mem)); k_whole)))) | ((with_reducible show wpAny _ _ (call (Value.builtin "iter") _) _ _ _); with_reducible ((k_here; (with_reducible show wpAny _ _ (call (Value.builtin _) [Value.ref _, Value.str _ _]) _ _ _); k_dflt (refine' iter_ci ?F ?N ?q ?_; (case F => k_asm); (case N => k_asm); (case q => k_mem)); intro D' h' F' N' l1; (try k_lt l1)))) | ((with_reducible show wpAny _ _ (execs (_ :: _) _) _ _ _); with_reducible ((refine execs_cut ?_; intro _ _))) | ((with_reducible show wpAny _ _ (callWith _ (Value.ref _) _ _ _) _ _ _); with_reducible ((k_here; k_dflt (first | (refine' callWith_K ?k1 ?k2 ?_; (case k1 => k_asm); (case k2 => k_is); k_whole) | (refine' callWith_K0 ?k1 ?k2 ?_; (case k1 => k_in); (case k2 => k_is); k_whole))))) | ((with_reducible show wpAny _ _ (binaryOp .Mult (Value.int _ _) (Value.float _ _)) _ _ _); with_reducible ((k_here; k_dflt (refine' mulif_safe ?k1 ?_; (case k1 => omega); k_whole)))) | ((with_reducible show wpAny _ _ (binaryOp .Mult (Value.float _ _) (Value.int _ _)) _ _ _); with_reducible ((k_here; k_dflt (refine' mulfi_safe ?k1 ?_; (case k1 => omega); k_whole)))) | ((with_reducible show wpAny _ _ (binaryOp .Mod (Value.float _ _) (Value.float _ _)) _ _ _); with_reducible ((k_here; k_dflt (refine' fmod_safe ?k1 ?k2 ?_; (case k1 => with_unfolding_all rfl); (case k2 => decide +kernel); k_whole)))) | ((with_reducible show wpAny _ _ (binaryOp .Div (Value.float _ _) (Value.float _ _)) _ _ _); with_reducible ((k_here; k_dflt (refine' fdiv_safe ?k1 ?k2 ?_; (case k1 => with_unfolding_all rfl); (case k2 => decide +kernel); k_whole)))) | ((with_reducible show wpAny _ _ (binaryOp .Div (Value.int _ _) (Value.int _ _)) _ _ _); with_reducible ((k_here; k_dflt (refine' div_safe ?k1 ?k2 ?k3 ?_; (case k1 => with_unfolding_all rfl); (case k2 => omega); (case k3 => omega); k_whole)))) | ((with_reducible show wpAny _ _ (call (Value.builtin "min") _) _ _ _); with_reducible ((k_here; (with_reducible show wpAny _ _ (call (Value.builtin _) [Value.int _ _, Value.int _ _, Value.int _ _]) _ _ _); k_dflt (refine' min3_N ?k1 ?k2 ?k3 ?_; (case k1 => with_unfolding_all rfl); (case k2 => k_asm); (case k3 => k_asm); k_whole); intro h' tk' tt' F' N'; (try k_sweep)))) | ((with_reducible show wpAny _ _ (call (Value.builtin "max") _) _ _ _); with_reducible ((k_here; (with_reducible show wpAny _ _ (call (Value.builtin _) [Value.int _ _, Value.int _ _, Value.int _ _]) _ _ _); k_dflt (refine' max3_N ?k1 ?k2 ?k3 ?_; (case k1 => with_unfolding_all rfl); (case k2 => k_asm); (case k3 => k_asm); k_whole); intro h' tk' tt' F' N'; (try k_sweep)))) | walk1 | dsimp only | (leave1; walk_say "STEP leave1"; try dsimp only) | fail "no step"))
    rename Fr _ _ _ _ => F5
    rename News _ _ _ _ => N5
    dsimp only [WhileStep2]
    exact ⟨_, _, _, _, 0, rfl, F5, N5, by omega, _, p' + 1, _, _, _, _, _, pins3 rfl rfl rfl, rfl, .inr ⟨rfl, drop_next hp', by rw [show nlc (ch1 10) = 1 by decide +kernel]; exact hL'⟩⟩
  · rcases ht9 with ⟨rfl, rfl, rfl⟩ | ⟨rfl, hpl⟩ | ⟨items, ws, hi0, rfl, rfl, hws, hpl⟩
    · refine tok_none (rest' := (pb, listOf #[] e) :: rest) hp' I2 (by k_asm) (by k_asm) F2 (by k_asm) N2 (by k_asm) rfl (by ktr_room) (by ktr_units) mD mq ?_ ?_
      · intro q hq
        rcases List.mem_cons.mp hq with rfl | hq
        · exact ⟨mpb, Nat.ne_of_lt lD.2.1⟩
        · exact ⟨hrR q hq, nD q hq⟩
      · intro t2 n2 tl2 h3 tk3 F3 N3
        clear F2 N2
        dsimp only
        (repeat' ((fail_if_success (with_reducible show wpAny _ _ (exec (Stmt.For _ _ _ _ _) _) _ _ _)); (fail_if_success (with_reducible show codeAny _ _ (Code.forLoop _ _ _ _ _) _ _)); first | (k_unfold; (try dsimp only)) | (k_end; wrow_close) | (with_reducible ((k_here; (with_reducible show wpAny _ _ (call (Value.ref 84) _) _ _ _); k_dflt (refine' (ConK.c (read_char_some _ _ _ _ _ _ _ _ _ _ _ _ _ _ _ _ _ _ _ _ _ _ _ _ _ _ _ ?ka ?kb)) _ _ _ _ _ _ _ _ _ _ _ _ _ _ _ _ _ _ _ ?k0 ?k1 ?k2 ?k3 ?k4 ?k5 ?kK ?kd ?ku ?_; (((case k0 => assumption); (case k1 => first | k_asm | ktn_no "the frames below"); (case k2 => first | k_asm | ktn_no "the frame"); (case k3 => first | k_asm | ktn_no "the written part"); (case k4 => first | k_asm | ktn_no "the ledger"); (case k5 => first | k_asm | ktn_no "the top"); (case kK => first | exact rfl | assumption | ktn_no "no def"); (case kd => first | ktr_room | ktn_no "the room"); (case ku => first | ktr_units | ktn_no "the units"))); (case kb => assumption); (case ka => assumption)); intro v' news' h' tk' F' N' hr'; obtain ⟨t1', t2', n', tl', hv', hn'⟩ := hr'; subst hv'; subst hn'))) | (with_reducible ((k_here; (with_reducible show wpAny _ _ (inplaceOp _ (Value.str (tkS _) _) (Value.str (ch1 _) _)) _ _ _); k_dflt (refine' add_tk ?k1 ?_; (case k1 => omega)); intro t' tk'))) | (with_reducible ((k_here; (with_reducible show wpAny _ _ (inplaceOp _ (Value.str (Str.ofString "") _) (Value.str (ch1 _) _)) _ _ _); k_dflt (refine' add_tk0 ?_); intro t' tk'))) | (with_reducible ((k_here; (with_reducible show wpAny _ _ (compareOp _ (Value.str (ch1 _) _) (Value.str (Str.ofString "\\") _)) _ _ _); k_dflt (refine' eq_bs ?k1 ?_; (case k1 => assumption); k_whole)))) | (with_reducible ((k_here; (with_reducible show wpAny _ _ (compareOp _ (Value.str (ch1 _) _) (Value.str (Str.ofString "\"") _)) _ _ _); k_dflt (refine' eq_qu ?k1 ?_; (case k1 => assumption); k_whole)))) | (with_reducible ((k_here; (with_reducible show wpAny _ _ (compareOp _ (Value.str (ch1 _) _) (Value.str _ _)) _ _ _); k_dflt (refine' in_ws ?k1 ?_; (case k1 => assumption); k_whole)))) | ((with_reducible show wpAny _ _ (pyIter (Value.ref _)) _ _ _); with_reducible ((k_here; k_dflt (refine' again_ci ?k1 ?_; (case k1 => exact News.get (by k_asm) (by k_mem)); k_whole)))) | ((with_reducible show wpAny _ _ (call (Value.builtin "iter") _) _ _ _); with_reducible ((k_here; (with_reducible show wpAny _ _ (call (Value.builtin _) [Value.ref _, Value.str _ _]) _ _ _); k_dflt (refine' iter_ci ?F ?N ?q ?_; (case F => k_asm); (case N => k_asm); (case q => k_mem)); intro D' h' F' N' l1; (try k_lt l1)))) | ((with_reducible show wpAny _ _ (execs (_ :: _) _) _ _ _); with_reducible ((refine execs_cut ?_; intro _ _))) | ((with_reducible show wpAny _ _ (callWith _ (Value.ref _) _ _ _) _ _ _); with_reducible ((k_here; k_dflt (first | (refine' callWith_K ?k1 ?k2 ?_; (case k1 => k_asm); (case k2 => k_is); k_whole) | (refine' callWith_K0 ?k1 ?k2 ?_; (case k1 => k_in); (case k2 => k_is); k_whole))))) | ((with_reducible show wpAny _ _ (binaryOp .Mult (Value.int _ _) (Value.float _ _)) _ _ _); with_reducible ((k_here; k_dflt (refine' mulif_safe ?k1 ?_; (case k1 => omega); k_whole)))) | ((with_reducible show wpAny _ _ (binaryOp .Mult (Value.float _ _) (Value.int _ _)) _ _ _); with_reducible ((k_here; k_dflt (refine' mulfi_safe ?k1 ?_; (case k1 => omega); k_whole)))) | ((with_reducible show wpAny _ _ (binaryOp .Mod (Value.float _ _) (Value.float _ _)) _ _ _); with_reducible ((k_here; k_dflt (refine' fmod_safe ?k1 ?k2 ?_; (case k1 => with_unfolding_all rfl); (case k2 => decide +kernel); k_whole)))) | ((with_reducible show wpAny _ _ (binaryOp .Div (Value.float _ _) (Value.float _ _)) _ _ _); with_reducible ((k_here; k_dflt (refine' fdiv_safe ?k1 ?k2 ?_; (case k1 => with_unfolding_all rfl); (case k2 => decide +kernel); k_whole)))) | ((with_reducible show wpAny _ _ (binaryOp .Div (Value.int _ _) (Value.int _ _)) _ _ _); with_reducible ((k_here; k_dflt (refine' div_safe ?k1 ?k2 ?k3 ?_; (case k1 => with_unfolding_all rfl); (case k2 => omega); (case k3 => omega); k_whole)))) | ((with_reducible show wpAny _ _ (call (Value.builtin "min") _) _ _ _); with_reducible ((k_here; (with_reducible show wpAny _ _ (call (Value.builtin _) [Value.int _ _, Value.int _ _, Value.int _ _]) _ _ _); k_dflt (refine' min3_N ?k1 ?k2 ?k3 ?_; (case k1 => with_unfolding_all rfl); (case k2 => k_asm); (case k3 => k_asm); k_whole); intro h' tk' tt' F' N'; (try k_sweep)))) | ((with_reducible show wpAny _ _ (call (Value.builtin "max") _) _ _ _); with_reducible ((k_here; (with_reducible show wpAny _ _ (call (Value.builtin _) [Value.int _ _, Value.int _ _, Value.int _ _]) _ _ _); k_dflt (refine' max3_N ?k1 ?k2 ?k3 ?_; (case k1 => with_unfolding_all rfl); (case k2 => k_asm); (case k3 => k_asm); k_whole); intro h' tk' tt' F' N'; (try k_sweep)))) | walk1 | dsimp only | (leave1; walk_say "STEP leave1"; try dsimp only) | fail "no step"))
        have e0 : Str.ofString "" = ⟨([] : List Nat).toArray⟩ := by decide +kernel
        rw [e0]
        refine hret _ _ _ _ (by k_asm) (perm3 (by k_asm)) ⟨_, _, _, _, p', hp', rfl, by rw [hL']⟩
    · refine tok_some hp' e_ne I2 (by k_asm) (by k_asm) F2 (by k_asm) N2 (by k_asm) rfl (by ktr_room) (by ktr_units) mD mq ?_
      intro t1 t2 n2 tl2 h3 tk3 F3 N3
      clear F2 N2
      have b1 : wsB 34 = false := by decide +kernel
      have b2 : quB 34 = true := by decide +kernel
      dsimp only
      (repeat' ((fail_if_success (with_reducible show wpAny _ _ (exec (Stmt.For _ _ _ _ _) _) _ _ _)); (fail_if_success (with_reducible show codeAny _ _ (Code.forLoop _ _ _ _ _) _ _)); first | (k_unfold; (try dsimp only)) | (k_end; wrow_close) | (with_reducible ((k_here; (with_reducible show wpAny _ _ (call (Value.ref 84) _) _ _ _); k_dflt (refine' (ConK.c (read_char_some _ _ _ _ _ _ _ _ _ _ _ _ _ _ _ _ _ _ _ _ _ _ _ _ _ _ _ ?ka ?kb)) _ _ _ _ _ _ _ _ _ _ _ _ _ _ _ _ _ _ _ ?k0 ?k1 ?k2 ?k3 ?k4 ?k5 ?kK ?kd ?ku ?_; (((case k0 => assumption); (case k1 => first | k_asm | ktn_no "the frames below"); (case k2 => first | k_asm | ktn_no "the frame"); (case k3 => first | k_asm | ktn_no "the written part"); (case k4 => first | k_asm | ktn_no "the ledger"); (case k5 => first | k_asm | ktn_no "the top"); (case kK => first | exact rfl | assumption | ktn_no "no def"); (case kd => first | ktr_room | ktn_no "the room"); (case ku => first | ktr_units | ktn_no "the units"))); (case kb => assumption); (case ka => assumption)); intro v' news' h' tk' F' N' hr'; obtain ⟨t1', t2', n', tl', hv', hn'⟩ := hr'; subst hv'; subst hn'))) | (with_reducible ((k_here; (with_reducible show wpAny _ _ (inplaceOp _ (Value.str (tkS _) _) (Value.str (ch1 _) _)) _ _ _); k_dflt (refine' add_tk ?k1 ?_; (case k1 => omega)); intro t' tk'))) | (with_reducible ((k_here; (with_reducible show wpAny _ _ (inplaceOp _ (Value.str (Str.ofString "") _) (Value.str (ch1 _) _)) _ _ _); k_dflt (refine' add_tk0 ?_); intro t' tk'))) | (with_reducible ((k_here; (with_reducible show wpAny _ _ (compareOp _ (Value.str (ch1 _) _) (Value.str (Str.ofString "\\") _)) _ _ _); k_dflt (refine' eq_bs ?k1 ?_; (case k1 => assumption); k_whole)))) | (with_reducible ((k_here; (with_reducible show wpAny _ _ (compareOp _ (Value.str (ch1 _) _) (Value.str (Str.ofString "\"") _)) _ _ _); k_dflt (refine' eq_qu ?k1 ?_; (case k1 => assumption); k_whole)))) | (with_reducible ((k_here; (with_reducible show wpAny _ _ (compareOp _ (Value.str (ch1 _) _) (Value.str _ _)) _ _ _); k_dflt (refine' in_ws ?k1 ?_; (case k1 => assumption); k_whole)))) | ((with_reducible show wpAny _ _ (pyIter (Value.ref _)) _ _ _); with_reducible ((k_here; k_dflt (refine' again_ci ?k1 ?_; (case k1 => exact News.get (by k_asm) (by k_mem)); k_whole)))) | ((with_reducible show wpAny _ _ (call (Value.builtin "iter") _) _ _ _); with_reducible ((k_here; (with_reducible show wpAny _ _ (call (Value.builtin _) [Value.ref _, Value.str _ _]) _ _ _); k_dflt (refine' iter_ci ?F ?N ?q ?_; (case F => k_asm); (case N => k_asm); (case q => k_mem)); intro D' h' F' N' l1; (try k_lt l1)))) | ((with_reducible show wpAny _ _ (execs (_ :: _) _) _ _ _); with_reducible ((refine execs_cut ?_; intro _ _))) | ((with_reducible show wpAny _ _ (callWith _ (Value.ref _) _ _ _) _ _ _); with_reducible ((k_here; k_dflt (first | (refine' callWith_K ?k1 ?k2 ?_; (case k1 => k_asm); (case k2 => k_is); k_whole) | (refine' callWith_K0 ?k1 ?k2 ?_; (case k1 => k_in); (case k2 => k_is); k_whole))))) | ((with_reducible show wpAny _ _ (binaryOp .Mult (Value.int _ _) (Value.float _ _)) _ _ _); with_reducible ((k_here; k_dflt (refine' mulif_safe ?k1 ?_; (case k1 => omega); k_whole)))) | ((with_reducible show wpAny _ _ (binaryOp .Mult (Value.float _ _) (Value.int _ _)) _ _ _); with_reducible ((k_here; k_dflt (refine' mulfi_safe ?k1 ?_; (case k1 => omega); k_whole)))) | ((with_reducible show wpAny _ _ (binaryOp .Mod (Value.float _ _) (Value.float _ _)) _ _ _); with_reducible ((k_here; k_dflt (refine' fmod_safe ?k1 ?k2 ?_; (case k1 => with_unfolding_all rfl); (case k2 => decide +kernel); k_whole)))) | ((with_reducible show wpAny _ _ (binaryOp .Div (Value.float _ _) (Value.float _ _)) _ _ _); with_reducible ((k_here; k_dflt (refine' fdiv_safe ?k1 ?k2 ?_; (case k1 => with_unfolding_all rfl); (case k2 => decide +kernel); k_whole)))) | ((with_reducible show wpAny _ _ (binaryOp .Div (Value.int _ _) (Value.int _ _)) _ _ _); with_reducible ((k_here; k_dflt (refine' div_safe ?k1 ?k2 ?k3 ?_; (case k1 => with_unfolding_all rfl); (case k2 => omega); (case k3 => omega); k_whole)))) | ((with_reducible show wpAny _ _ (call (Value.builtin "min") _) _ _ _); with_reducible ((k_here; (with_reducible show wpAny _ _ (call (Value.builtin _) [Value.int _ _, Value.int _ _, Value.int _ _]) _ _ _); k_dflt (refine' min3_N ?k1 ?k2 ?k3 ?_; (case k1 => with_unfolding_all rfl); (case k2 => k_asm); (case k3 => k_asm); k_whole); intro h' tk' tt' F' N'; (try k_sweep)))) | ((with_reducible show wpAny _ _ (call (Value.builtin "max") _) _ _ _); with_reducible ((k_here; (with_reducible show wpAny _ _ (call (Value.builtin _) [Value.int _ _, Value.int _ _, Value.int _ _]) _ _ _); k_dflt (refine' max3_N ?k1 ?k2 ?k3 ?_; (case k1 => with_unfolding_all rfl); (case k2 => k_asm); (case k3 => k_asm); k_whole); intro h' tk' tt' F' N'; (try k_sweep)))) | walk1 | dsimp only | (leave1; walk_say "STEP leave1"; try dsimp only) | fail "no step"))
      refine wpAny_For ?_
      (repeat' ((fail_if_success (with_reducible show wpAny _ _ (exec (Stmt.For _ _ _ _ _) _) _ _ _)); (fail_if_success (with_reducible show codeAny _ _ (Code.forLoop _ _ _ _ _) _ _)); first | (k_unfold; (try dsimp only)) | (k_end; wrow_close) | (with_reducible ((k_here; (with_reducible show wpAny _ _ (call (Value.ref 84) _) _ _ _); k_dflt (refine' (ConK.c (read_char_some _ _ _ _ _ _ _ _ _ _ _ _ _ _ _ _ _ _ _ _ _ _ _ _ _ _ _ ?ka ?kb)) _ _ _ _ _ _ _ _ _ _ _ _ _ _ _ _ _ _ _ ?k0 ?k1 ?k2 ?k3 ?k4 ?k5 ?kK ?kd ?ku ?_; (((case k0 => assumption); (case k1 => first | k_asm | ktn_no "the frames below"); (case k2 => first | k_asm | ktn_no "the frame"); (case k3 => first | k_asm | ktn_no "the written part"); (case k4 => first | k_asm | ktn_no "the ledger"); (case k5 => first | k_asm | ktn_no "the top"); (case kK => first | exact rfl | assumption | ktn_no "no def"); (case kd => first | ktr_room | ktn_no "the room"); (case ku => first | ktr_units | ktn_no "the units"))); (case kb => assumption); (case ka => assumption)); intro v' news' h' tk' F' N' hr'; obtain ⟨t1', t2', n', tl', hv', hn'⟩ := hr'; subst hv'; subst hn'))) | (with_reducible ((k_here; (with_reducible show wpAny _ _ (inplaceOp _ (Value.str (tkS _) _) (Value.str (ch1 _) _)) _ _ _); k_dflt (refine' add_tk ?k1 ?_; (case k1 => omega)); intro t' tk'))) | (with_reducible ((k_here; (with_reducible show wpAny _ _ (inplaceOp _ (Value.str (Str.ofString "") _) (Value.str (ch1 _) _)) _ _ _); k_dflt (refine' add_tk0 ?_); intro t' tk'))) | (with_reducible ((k_here; (with_reducible show wpAny _ _ (compareOp _ (Value.str (ch1 _) _) (Value.str (Str.ofString "\\") _)) _ _ _); k_dflt (refine' eq_bs ?k1 ?_; (case k1 => assumption); k_whole)))) | (with_reducible ((k_here; (with_reducible show wpAny _ _ (compareOp _ (Value.str (ch1 _) _) (Value.str (Str.ofString "\"") _)) _ _ _); k_dflt (refine' eq_qu ?k1 ?_; (case k1 => assumption); k_whole)))) | (with_reducible ((k_here; (with_reducible show wpAny _ _ (compareOp _ (Value.str (ch1 _) _) (Value.str _ _)) _ _ _); k_dflt (refine' in_ws ?k1 ?_; (case k1 => assumption); k_whole)))) | ((with_reducible show wpAny _ _ (pyIter (Value.ref _)) _ _ _); with_reducible ((k_here; k_dflt (refine' again_ci ?k1 ?_; (case k1 => exact News.get (by k_asm) (by k_mem)); k_whole)))) | ((with_reducible show wpAny _ _ (call (Value.builtin "iter") _) _ _ _); with_reducible ((k_here; (with_reducible show wpAny _ _ (call (Value.builtin _) [Value.ref _, Value.str _ _]) _ _ _); k_dflt (refine' iter_ci ?F ?N ?q ?_; (case F => k_asm); (case N => k_asm); (case q => k_mem)); intro D' h' F' N' l1; (try k_lt l1)))) | ((with_reducible show wpAny _ _ (execs (_ :: _) _) _ _ _); with_reducible ((refine execs_cut ?_; intro _ _))) | ((with_reducible show wpAny _ _ (callWith _ (Value.ref _) _ _ _) _ _ _); with_reducible ((k_here; k_dflt (first | (refine' callWith_K ?k1 ?k2 ?_; (case k1 => k_asm); (case k2 => k_is); k_whole) | (refine' callWith_K0 ?k1 ?k2 ?_; (case k1 => k_in); (case k2 => k_is); k_whole))))) | ((with_reducible show wpAny _ _ (binaryOp .Mult (Value.int _ _) (Value.float _ _)) _ _ _); with_reducible ((k_here; k_dflt (refine' mulif_safe ?k1 ?_; (case k1 => omega); k_whole)))) | ((with_reducible show wpAny _ _ (binaryOp .Mult (Value.float _ _) (Value.int _ _)) _ _ _); with_reducible ((k_here; k_dflt (refine' mulfi_safe ?k1 ?_; (case k1 => omega); k_whole)))) | ((with_reducible show wpAny _ _ (binaryOp .Mod (Value.float _ _) (Value.float _ _)) _ _ _); with_reducible ((k_here; k_dflt (refine' fmod_safe ?k1 ?k2 ?_; (case k1 => with_unfolding_all rfl); (case k2 => decide +kernel); k_whole)))) | ((with_reducible show wpAny _ _ (binaryOp .Div (Value.float _ _) (Value.float _ _)) _ _ _); with_reducible ((k_here; k_dflt (refine' fdiv_safe ?k1 ?k2 ?_; (case k1 => with_unfolding_all rfl); (case k2 => decide +kernel); k_whole)))) | ((with_reducible show wpAny _ _ (binaryOp .Div (Value.int _ _) (Value.int _ _)) _ _ _); with_reducible ((k_here; k_dflt (refine' div_safe ?k1 ?k2 ?k3 ?_; (case k1 => with_unfolding_all rfl); (case k2 => omega); (case k3 => omega); k_whole)))) | ((with_reducible show wpAny _ _ (call (Value.builtin "min") _) _ _ _); with_reducible ((k_here; (with_reducible show wpAny _ _ (call (Value.builtin _) [Value.int _ _, Value.int _ _, Value.int _ _]) _ _ _); k_dflt (refine' min3_N ?k1 ?k2 ?k3 ?_; (case k1 => with_unfolding_all rfl); (case k2 => k_asm); (case k3 => k_asm); k_whole); intro h' tk' tt' F' N'; (try k_sweep)))) | ((with_reducible show wpAny _ _ (call (Value.builtin "max") _) _ _ _); with_reducible ((k_here; (with_reducible show wpAny _ _ (call (Value.builtin _) [Value.int _ _, Value.int _ _, Value.int _ _]) _ _ _); k_dflt (refine' max3_N ?k1 ?k2 ?k3 ?_; (case k1 => with_unfolding_all rfl); (case k2 => k_asm); (case k3 => k_asm); k_whole); intro h' tk' tt' F' N'; (try k_sweep)))) | walk1 | dsimp only | (leave1; walk_say "STEP leave1"; try dsimp only) | fail "no step"))
      rename Fr _ _ _ _ => F5
      rename News _ _ _ _ => N5
      refine for_own (fun n1 m1 news1 => ∃ (m' : Str → Option Value) (u v : List Nat) (x : Str) (p' n' : Nat) (tl' t2' t3' : Tok) (ln' : Int), m1 = (fun y => if y = Str.ofString "self" then some (.ref lx) else if y = Str.ofString "token" then some (.str x t3') else if y = Str.ofString "fiter" then some (.ref D9) else m' y) ∧
          news1 = (dl, lexD w k1 k2 k3 k4 tl' tw ln' fs pb) :: (l, listOf #[.int (p' : Int) t2'] n') :: R2 ∧ x = tkS u ∧ word = u ++ v ∧ n1 = v.length ∧ cz.drop p' = v ++ 34 :: left ∧ LN = ln')
        F5 N5 (n₀ := word.length) ⟨_, [], word, _, p' + 1, _, _, _, _, _, pins3 rfl rfl rfl, rfl, by decide +kernel, rfl, rfl, drop_next hp', by rw [show nlc (ch1 34) = 0 by decide +kernel]; omega⟩ ?_ (by passes_own) (by intro _; rfl)
      clear F5 N5
      intro n3 m3 news3 h5 tk5 F6 N6 J W9
      obtain ⟨m4, u, v, x, p4, n4, tl4, t4, t5, ln4, rfl, rfl, rfl, hw, rfl, hp4, rfl⟩ := J
      cases v with
      | nil =>
        refine tok_some hp4 e_ne I2 (by k_asm) (by k_asm) F6 (by k_asm) N6 (by k_asm) rfl (by ktr_room) (by ktr_units) mD mq ?_
        intro t7 t8 n7 tl7 h7 tk7 F7 N7
        clear F6 N6
        dsimp only
        (repeat' ((fail_if_success (with_reducible show wpAny _ _ (exec (Stmt.For _ _ _ _ _) _) _ _ _)); (fail_if_success (with_reducible show codeAny _ _ (Code.forLoop _ _ _ _ _) _ _)); first | (k_unfold; (try dsimp only)) | (k_end; wrow_close) | (with_reducible ((k_here; (with_reducible show wpAny _ _ (call (Value.ref 84) _) _ _ _); k_dflt (refine' (ConK.c (read_char_some _ _ _ _ _ _ _ _ _ _ _ _ _ _ _ _ _ _ _ _ _ _ _ _ _ _ _ ?ka ?kb)) _ _ _ _ _ _ _ _ _ _ _ _ _ _ _ _ _ _ _ ?k0 ?k1 ?k2 ?k3 ?k4 ?k5 ?kK ?kd ?ku ?_; (((case k0 => assumption); (case k1 => first | k_asm | ktn_no "the frames below"); (case k2 => first | k_asm | ktn_no "the frame"); (case k3 => first | k_asm | ktn_no "the written part"); (case k4 => first | k_asm | ktn_no "the ledger"); (case k5 => first | k_asm | ktn_no "the top"); (case kK => first | exact rfl | assumption | ktn_no "no def"); (case kd => first | ktr_room | ktn_no "the room"); (case ku => first | ktr_units | ktn_no "the units"))); (case kb => assumption); (case ka => assumption)); intro v' news' h' tk' F' N' hr'; obtain ⟨t1', t2', n', tl', hv', hn'⟩ := hr'; subst hv'; subst hn'))) | (with_reducible ((k_here; (with_reducible show wpAny _ _ (inplaceOp _ (Value.str (tkS _) _) (Value.str (ch1 _) _)) _ _ _); k_dflt (refine' add_tk ?k1 ?_; (case k1 => omega)); intro t' tk'))) | (with_reducible ((k_here; (with_reducible show wpAny _ _ (inplaceOp _ (Value.str (Str.ofString "") _) (Value.str (ch1 _) _)) _ _ _); k_dflt (refine' add_tk0 ?_); intro t' tk'))) | (with_reducible ((k_here; (with_reducible show wpAny _ _ (compareOp _ (Value.str (ch1 _) _) (Value.str (Str.ofString "\\") _)) _ _ _); k_dflt (refine' eq_bs ?k1 ?_; (case k1 => assumption); k_whole)))) | (with_reducible ((k_here; (with_reducible show wpAny _ _ (compareOp _ (Value.str (ch1 _) _) (Value.str (Str.ofString "\"") _)) _ _ _); k_dflt (refine' eq_qu ?k1 ?_; (case k1 => assumption); k_whole)))) | (with_reducible ((k_here; (with_reducible show wpAny _ _ (compareOp _ (Value.str (ch1 _) _) (Value.str _ _)) _ _ _); k_dflt (refine' in_ws ?k1 ?_; (case k1 => assumption); k_whole)))) | ((with_reducible show wpAny _ _ (pyIter (Value.ref _)) _ _ _); with_reducible ((k_here; k_dflt (refine' again_ci ?k1 ?_; (case k1 => exact News.get (by k_asm) (by k_mem)); k_whole)))) | ((with_reducible show wpAny _ _ (call (Value.builtin "iter") _) _ _ _); with_reducible ((k_here; (with_reducible show wpAny _ _ (call (Value.builtin _) [Value.ref _, Value.str _ _]) _ _ _); k_dflt (refine' iter_ci ?F ?N ?q ?_; (case F => k_asm); (case N => k_asm); (case q => k_mem)); intro D' h' F' N' l1; (try k_lt l1)))) | ((with_reducible show wpAny _ _ (execs (_ :: _) _) _ _ _); with_reducible ((refine execs_cut ?_; intro _ _))) | ((with_reducible show wpAny _ _ (callWith _ (Value.ref _) _ _ _) _ _ _); with_reducible ((k_here; k_dflt (first | (refine' callWith_K ?k1 ?k2 ?_; (case k1 => k_asm); (case k2 => k_is); k_whole) | (refine' callWith_K0 ?k1 ?k2 ?_; (case k1 => k_in); (case k2 => k_is); k_whole))))) | ((with_reducible show wpAny _ _ (binaryOp .Mult (Value.int _ _) (Value.float _ _)) _ _ _); with_reducible ((k_here; k_dflt (refine' mulif_safe ?k1 ?_; (case k1 => omega); k_whole)))) | ((with_reducible show wpAny _ _ (binaryOp .Mult (Value.float _ _) (Value.int _ _)) _ _ _); with_reducible ((k_here; k_dflt (refine' mulfi_safe ?k1 ?_; (case k1 => omega); k_whole)))) | ((with_reducible show wpAny _ _ (binaryOp .Mod (Value.float _ _) (Value.float _ _)) _ _ _); with_reducible ((k_here; k_dflt (refine' fmod_safe ?k1 ?k2 ?_; (case k1 => with_unfolding_all rfl); (case k2 => decide +kernel); k_whole)))) | ((with_reducible show wpAny _ _ (binaryOp .Div (Value.float _ _) (Value.float _ _)) _ _ _); with_reducible ((k_here; k_dflt (refine' fdiv_safe ?k1 ?k2 ?_; (case k1 => with_unfolding_all rfl); (case k2 => decide +kernel); k_whole)))) | ((with_reducible show wpAny _ _ (binaryOp .Div (Value.int _ _) (Value.int _ _)) _ _ _); with_reducible ((k_here; k_dflt (refine' div_safe ?k1 ?k2 ?k3 ?_; (case k1 => with_unfolding_all rfl); (case k2 => omega); (case k3 => omega); k_whole)))) | ((with_reducible show wpAny _ _ (call (Value.builtin "min") _) _ _ _); with_reducible ((k_here; (with_reducible show wpAny _ _ (call (Value.builtin _) [Value.int _ _, Value.int _ _, Value.int _ _]) _ _ _); k_dflt (refine' min3_N ?k1 ?k2 ?k3 ?_; (case k1 => with_unfolding_all rfl); (case k2 => k_asm); (case k3 => k_asm); k_whole); intro h' tk' tt' F' N'; (try k_sweep)))) | ((with_reducible show wpAny _ _ (call (Value.builtin "max") _) _ _ _); with_reducible ((k_here; (with_reducible show wpAny _ _ (call (Value.builtin _) [Value.int _ _, Value.int _ _, Value.int _ _]) _ _ _); k_dflt (refine' max3_N ?k1 ?k2 ?k3 ?_; (case k1 => with_unfolding_all rfl); (case k2 => k_asm); (case k3 => k_asm); k_whole); intro h' tk' tt' F' N'; (try k_sweep)))) | walk1 | dsimp only | (leave1; walk_say "STEP leave1"; try dsimp only) | fail "no step"))
        dsimp only [WhileStep2]
        (repeat' ((fail_if_success (with_reducible show wpAny _ _ (exec (Stmt.For _ _ _ _ _) _) _ _ _)); (fail_if_success (with_reducible show codeAny _ _ (Code.forLoop _ _ _ _ _) _ _)); first | (k_unfold; (try dsimp only)) | (k_end; wrow_close) | (with_reducible ((k_here; (with_reducible show wpAny _ _ (call (Value.ref 84) _) _ _ _); k_dflt (refine' (ConK.c (read_char_some _ _ _ _ _ _ _ _ _ _ _ _ _ _ _ _ _ _ _ _ _ _ _ _ _ _ _ ?ka ?kb)) _ _ _ _ _ _ _ _ _ _ _ _ _ _ _ _ _ _ _ ?k0 ?k1 ?k2 ?k3 ?k4 ?k5 ?kK ?kd ?ku ?_; (((case k0 => assumption); (case k1 => first | k_asm | ktn_no "the frames below"); (case k2 => first | k_asm | ktn_no "the frame"); (case k3 => first | k_asm | ktn_no "the written part"); (case k4 => first | k_asm | ktn_no "the ledger"); (case k5 => first | k_asm | ktn_no "the top"); (case kK => first | exact rfl | assumption | ktn_no "no def"); (case kd => first | ktr_room | ktn_no "the room"); (case ku => first | ktr_units | ktn_no "the units"))); (case kb => assumption); (case ka => assumption)); intro v' news' h' tk' F' N' hr'; obtain ⟨t1', t2', n', tl', hv', hn'⟩ := hr'; subst hv'; subst hn'))) | (with_reducible ((k_here; (with_reducible show wpAny _ _ (inplaceOp _ (Value.str (tkS _) _) (Value.str (ch1 _) _)) _ _ _); k_dflt (refine' add_tk ?k1 ?_; (case k1 => omega)); intro t' tk'))) | (with_reducible ((k_here; (with_reducible show wpAny _ _ (inplaceOp _ (Value.str (Str.ofString "") _) (Value.str (ch1 _) _)) _ _ _); k_dflt (refine' add_tk0 ?_); intro t' tk'))) | (with_reducible ((k_here; (with_reducible show wpAny _ _ (compareOp _ (Value.str (ch1 _) _) (Value.str (Str.ofString "\\") _)) _ _ _); k_dflt (refine' eq_bs ?k1 ?_; (case k1 => assumption); k_whole)))) | (with_reducible ((k_here; (with_reducible show wpAny _ _ (compareOp _ (Value.str (ch1 _) _) (Value.str (Str.ofString "\"") _)) _ _ _); k_dflt (refine' eq_qu ?k1 ?_; (case k1 => assumption); k_whole)))) | (with_reducible ((k_here; (with_reducible show wpAny _ _ (compareOp _ (Value.str (ch1 _) _) (Value.str _ _)) _ _ _); k_dflt (refine' in_ws ?k1 ?_; (case k1 => assumption); k_whole)))) | ((with_reducible show wpAny _ _ (pyIter (Value.ref _)) _ _ _); with_reducible ((k_here; k_dflt (refine' again_ci ?k1 ?_; (case k1 => exact News.get (by k_asm) (by k_mem)); k_whole)))) | ((with_reducible show wpAny _ _ (call (Value.builtin "iter") _) _ _ _); with_reducible ((k_here; (with_reducible show wpAny _ _ (call (Value.builtin _) [Value.ref _, Value.str _ _]) _ _ _); k_dflt (refine' iter_ci ?F ?N ?q ?_; (case F => k_asm); (case N => k_asm); (case q => k_mem)); intro D' h' F' N' l1; (try k_lt l1)))) | ((with_reducible show wpAny _ _ (execs (_ :: _) _) _ _ _); with_reducible ((refine execs_cut ?_; intro _ _))) | ((with_reducible show wpAny _ _ (callWith _ (Value.ref _) _ _ _) _ _ _); with_reducible ((k_here; k_dflt (first | (refine' callWith_K ?k1 ?k2 ?_; (case k1 => k_asm); (case k2 => k_is); k_whole) | (refine' callWith_K0 ?k1 ?k2 ?_; (case k1 => k_in); (case k2 => k_is); k_whole))))) | ((with_reducible show wpAny _ _ (binaryOp .Mult (Value.int _ _) (Value.float _ _)) _ _ _); with_reducible ((k_here; k_dflt (refine' mulif_safe ?k1 ?_; (case k1 => omega); k_whole)))) | ((with_reducible show wpAny _ _ (binaryOp .Mult (Value.float _ _) (Value.int _ _)) _ _ _); with_reducible ((k_here; k_dflt (refine' mulfi_safe ?k1 ?_; (case k1 => omega); k_whole)))) | ((with_reducible show wpAny _ _ (binaryOp .Mod (Value.float _ _) (Value.float _ _)) _ _ _); with_reducible ((k_here; k_dflt (refine' fmod_safe ?k1 ?k2 ?_; (case k1 => with_unfolding_all rfl); (case k2 => decide +kernel); k_whole)))) | ((with_reducible show wpAny _ _ (binaryOp .Div (Value.float _ _) (Value.float _ _)) _ _ _); with_reducible ((k_here; k_dflt (refine' fdiv_safe ?k1 ?k2 ?_; (case k1 => with_unfolding_all rfl); (case k2 => decide +kernel); k_whole)))) | ((with_reducible show wpAny _ _ (binaryOp .Div (Value.int _ _) (Value.int _ _)) _ _ _); with_reducible ((k_here; k_dflt (refine' div_safe ?k1 ?k2 ?k3 ?_; (case k1 => with_unfolding_all rfl); (case k2 => omega); (case k3 => omega); k_whole)))) | ((with_reducible show wpAny _ _ (call (Value.builtin "min") _) _ _ _); with_reducible ((k_here; (with_reducible show wpAny _ _ (call (Value.builtin _) [Value.int _ _, Value.int _ _, Value.int _ _]) _ _ _); k_dflt (refine' min3_N ?k1 ?k2 ?k3 ?_; (case k1 => with_unfolding_all rfl); (case k2 => k_asm); (case k3 => k_asm); k_whole); intro h' tk' tt' F' N'; (try k_sweep)))) | ((with_reducible show wpAny _ _ (call (Value.builtin "max") _) _ _ _); with_reducible ((k_here; (with_reducible show wpAny _ _ (call (Value.builtin _) [Value.int _ _, Value.int _ _, Value.int _ _]) _ _ _); k_dflt (refine' max3_N ?k1 ?k2 ?k3 ?_; (case k1 => with_unfolding_all rfl); (case k2 => k_asm); (case k3 => k_asm); k_whole); intro h' tk' tt' F' N'; (try k_sweep)))) | walk1 | dsimp only | (leave1; walk_say "STEP leave1"; try dsimp only) | fail "no step"))
        (try dsimp only [WhileStep2])
        (repeat' ((fail_if_success (with_reducible show wpAny _ _ (exec (Stmt.For _ _ _ _ _) _) _ _ _)); (fail_if_success (with_reducible show codeAny _ _ (Code.forLoop _ _ _ _ _) _ _)); first | (k_unfold; (try dsimp only)) | (k_end; wrow_close) | (with_reducible ((k_here; (with_reducible show wpAny _ _ (call (Value.ref 84) _) _ _ _); k_dflt (refine' (ConK.c (read_char_some _ _ _ _ _ _ _ _ _ _ _ _ _ _ _ _ _ _ _ _ _ _ _ _ _ _ _ ?ka ?kb)) _ _ _ _ _ _ _ _ _ _ _ _ _ _ _ _ _ _ _ ?k0 ?k1 ?k2 ?k3 ?k4 ?k5 ?kK ?kd ?ku ?_; (((case k0 => assumption); (case k1 => first | k_asm | ktn_no "the frames below"); (case k2 => first | k_asm | ktn_no "the frame"); (case k3 => first | k_asm | ktn_no "the written part"); (case k4 => first | k_asm | ktn_no "the ledger"); (case k5 => first | k_asm | ktn_no "the top"); (case kK => first | exact rfl | assumption | ktn_no "no def"); (case kd => first | ktr_room | ktn_no "the room"); (case ku => first | ktr_units | ktn_no "the units"))); (case kb => assumption); (case ka => assumption)); intro v' news' h' tk' F' N' hr'; obtain ⟨t1', t2', n', tl', hv', hn'⟩ := hr'; subst hv'; subst hn'))) | (with_reducible ((k_here; (with_reducible show wpAny _ _ (inplaceOp _ (Value.str (tkS _) _) (Value.str (ch1 _) _)) _ _ _); k_dflt (refine' add_tk ?k1 ?_; (case k1 => omega)); intro t' tk'))) | (with_reducible ((k_here; (with_reducible show wpAny _ _ (inplaceOp _ (Value.str (Str.ofString "") _) (Value.str (ch1 _) _)) _ _ _); k_dflt (refine' add_tk0 ?_); intro t' tk'))) | (with_reducible ((k_here; (with_reducible show wpAny _ _ (compareOp _ (Value.str (ch1 _) _) (Value.str (Str.ofString "\\") _)) _ _ _); k_dflt (refine' eq_bs ?k1 ?_; (case k1 => assumption); k_whole)))) | (with_reducible ((k_here; (with_reducible show wpAny _ _ (compareOp _ (Value.str (ch1 _) _) (Value.str (Str.ofString "\"") _)) _ _ _); k_dflt (refine' eq_qu ?k1 ?_; (case k1 => assumption); k_whole)))) | (with_reducible ((k_here; (with_reducible show wpAny _ _ (compareOp _ (Value.str (ch1 _) _) (Value.str _ _)) _ _ _); k_dflt (refine' in_ws ?k1 ?_; (case k1 => assumption); k_whole)))) | ((with_reducible show wpAny _ _ (pyIter (Value.ref _)) _ _ _); with_reducible ((k_here; k_dflt (refine' again_ci ?k1 ?_; (case k1 => exact News.get (by k_asm) (by k_mem)); k_whole)))) | ((with_reducible show wpAny _ _ (call (Value.builtin "iter") _) _ _ _); with_reducible ((k_here; (with_reducible show wpAny _ _ (call (Value.builtin _) [Value.ref _, Value.str _ _]) _ _ _); k_dflt (refine' iter_ci ?F ?N ?q ?_; (case F => k_asm); (case N => k_asm); (case q => k_mem)); intro D' h' F' N' l1; (try k_lt l1)))) | ((with_reducible show wpAny _ _ (execs (_ :: _) _) _ _ _); with_reducible ((refine execs_cut ?_; intro _ _))) | ((with_reducible show wpAny _ _ (callWith _ (Value.ref _) _ _ _) _ _ _); with_reducible ((k_here; k_dflt (first | (refine' callWith_K ?k1 ?k2 ?_; (case k1 => k_asm); (case k2 => k_is); k_whole) | (refine' callWith_K0 ?k1 ?k2 ?_; (case k1 => k_in); (case k2 => k_is); k_whole))))) | ((with_reducible show wpAny _ _ (binaryOp .Mult (Value.int _ _) (Value.float _ _)) _ _ _); with_reducible ((k_here; k_dflt (refine' mulif_safe ?k1 ?_; (case k1 => omega); k_whole)))) | ((with_reducible show wpAny _ _ (binaryOp .Mult (Value.float _ _) (Value.int _ _)) _ _ _); with_reducible ((k_here; k_dflt (refine' mulfi_safe ?k1 ?_; (case k1 => omega); k_whole)))) | ((with_reducible show wpAny _ _ (binaryOp .Mod (Value.float _ _) (Value.float _ _)) _ _ _); with_reducible ((k_here; k_dflt (refine' fmod_safe ?k1 ?k2 ?_; (case k1 => with_unfolding_all rfl); (case k2 => decide +kernel); k_whole)))) | ((with_reducible show wpAny _ _ (binaryOp .Div (Value.float _ _) (Value.float _ _)) _ _ _); with_reducible ((k_here; k_dflt (refine' fdiv_safe ?k1 ?k2 ?_; (case k1 => with_unfolding_all rfl); (case k2 => decide +kernel); k_whole)))) | ((with_reducible show wpAny _ _ (binaryOp .Div (Value.int _ _) (Value.int _ _)) _ _ _); with_reducible ((k_here; k_dflt (refine' div_safe ?k1 ?k2 ?k3 ?_; (case k1 => with_unfolding_all rfl); (case k2 => omega); (case k3 => omega); k_whole)))) | ((with_reducible show wpAny _ _ (call (Value.builtin "min") _) _ _ _); with_reducible ((k_here; (with_reducible show wpAny _ _ (call (Value.builtin _) [Value.int _ _, Value.int _ _, Value.int _ _]) _ _ _); k_dflt (refine' min3_N ?k1 ?k2 ?k3 ?_; (case k1 => with_unfolding_all rfl); (case k2 => k_asm); (case k3 => k_asm); k_whole); intro h' tk' tt' F' N'; (try k_sweep)))) | ((with_reducible show wpAny _ _ (call (Value.builtin "max") _) _ _ _); with_reducible ((k_here; (with_reducible show wpAny _ _ (call (Value.builtin _) [Value.int _ _, Value.int _ _, Value.int _ _]) _ _ _); k_dflt (refine' max3_N ?k1 ?k2 ?k3 ?_; (case k1 => with_unfolding_all rfl); (case k2 => k_asm); (case k3 => k_asm); k_whole); intro h' tk' tt' F' N'; (try k_sweep)))) | walk1 | dsimp only | (leave1; walk_say "STEP leave1"; try dsimp only) | fail "no step"))
        refine hret _ _ _ _ (by k_asm) (back3 (by k_asm) mpb hrR) ⟨_, _, _, _, p4 + 1, drop_next hp4, by rw [hw, List.append_nil]; rfl, by rw [show nlc (ch1 34) = 0 by decide +kernel, Int.add_zero]⟩
      | cons c v =>
        have hc9 : Pl c := hpl c (by rw [hw]; simp)
        refine tok_some hp4 e_ne I2 (by k_asm) (by k_asm) F6 (by k_asm) N6 (by k_asm) rfl (by ktr_room) (by ktr_units) mD mq ?_
        intro t7 t8 n7 tl7 h7 tk7 F7 N7
        clear F6 N6
        have b3 := qu_pl hc9
        have b4 := bs_pl hc9
        have b5 := nl_pl hc9
        have b6 : u.length ≤ 10 := by rw [hw] at hw9; simp at hw9; omega
        dsimp only
        (repeat' ((fail_if_success (with_reducible show wpAny _ _ (exec (Stmt.For _ _ _ _ _) _) _ _ _)); (fail_if_success (with_reducible show codeAny _ _ (Code.forLoop _ _ _ _ _) _ _)); first | (k_unfold; (try dsimp only)) | (k_end; wrow_close) | (with_reducible ((k_here; (with_reducible show wpAny _ _ (call (Value.ref 84) _) _ _ _); k_dflt (refine' (ConK.c (read_char_some _ _ _ _ _ _ _ _ _ _ _ _ _ _ _ _ _ _ _ _ _ _ _ _ _ _ _ ?ka ?kb)) _ _ _ _ _ _ _ _ _ _ _ _ _ _ _ _ _ _ _ ?k0 ?k1 ?k2 ?k3 ?k4 ?k5 ?kK ?kd ?ku ?_; (((case k0 => assumption); (case k1 => first | k_asm | ktn_no "the frames below"); (case k2 => first | k_asm | ktn_no "the frame"); (case k3 => first | k_asm | ktn_no "the written part"); (case k4 => first | k_asm | ktn_no "the ledger"); (case k5 => first | k_asm | ktn_no "the top"); (case kK => first | exact rfl | assumption | ktn_no "no def"); (case kd => first | ktr_room | ktn_no "the room"); (case ku => first | ktr_units | ktn_no "the units"))); (case kb => assumption); (case ka => assumption)); intro v' news' h' tk' F' N' hr'; obtain ⟨t1', t2', n', tl', hv', hn'⟩ := hr'; subst hv'; subst hn'))) | (with_reducible ((k_here; (with_reducible show wpAny _ _ (inplaceOp _ (Value.str (tkS _) _) (Value.str (ch1 _) _)) _ _ _); k_dflt (refine' add_tk ?k1 ?_; (case k1 => omega)); intro t' tk'))) | (with_reducible ((k_here; (with_reducible show wpAny _ _ (inplaceOp _ (Value.str (Str.ofString "") _) (Value.str (ch1 _) _)) _ _ _); k_dflt (refine' add_tk0 ?_); intro t' tk'))) | (with_reducible ((k_here; (with_reducible show wpAny _ _ (compareOp _ (Value.str (ch1 _) _) (Value.str (Str.ofString "\\") _)) _ _ _); k_dflt (refine' eq_bs ?k1 ?_; (case k1 => assumption); k_whole)))) | (with_reducible ((k_here; (with_reducible show wpAny _ _ (compareOp _ (Value.str (ch1 _) _) (Value.str (Str.ofString "\"") _)) _ _ _); k_dflt (refine' eq_qu ?k1 ?_; (case k1 => assumption); k_whole)))) | (with_reducible ((k_here; (with_reducible show wpAny _ _ (compareOp _ (Value.str (ch1 _) _) (Value.str _ _)) _ _ _); k_dflt (refine' in_ws ?k1 ?_; (case k1 => assumption); k_whole)))) | ((with_reducible show wpAny _ _ (pyIter (Value.ref _)) _ _ _); with_reducible ((k_here; k_dflt (refine' again_ci ?k1 ?_; (case k1 => exact News.get (by k_asm) (by k_mem)); k_whole)))) | ((with_reducible show wpAny _ _ (call (Value.builtin "iter") _) _ _ _); with_reducible ((k_here; (with_reducible show wpAny _ _ (call (Value.builtin _) [Value.ref _, Value.str _ _]) _ _ _); k_dflt (refine' iter_ci ?F ?N ?q ?_; (case F => k_asm); (case N => k_asm); (case q => k_mem)); intro D' h' F' N' l1; (try k_lt l1)))) | ((with_reducible show wpAny _ _ (execs (_ :: _) _) _ _ _); with_reducible ((refine execs_cut ?_; intro _ _))) | ((with_reducible show wpAny _ _ (callWith _ (Value.ref _) _ _ _) _ _ _); with_reducible ((k_here; k_dflt (first | (refine' callWith_K ?k1 ?k2 ?_; (case k1 => k_asm); (case k2 => k_is); k_whole) | (refine' callWith_K0 ?k1 ?k2 ?_; (case k1 => k_in); (case k2 => k_is); k_whole))))) | ((with_reducible show wpAny _ _ (binaryOp .Mult (Value.int _ _) (Value.float _ _)) _ _ _); with_reducible ((k_here; k_dflt (refine' mulif_safe ?k1 ?_; (case k1 => omega); k_whole)))) | ((with_reducible show wpAny _ _ (binaryOp .Mult (Value.float _ _) (Value.int _ _)) _ _ _); with_reducible ((k_here; k_dflt (refine' mulfi_safe ?k1 ?_; (case k1 => omega); k_whole)))) | ((with_reducible show wpAny _ _ (binaryOp .Mod (Value.float _ _) (Value.float _ _)) _ _ _); with_reducible ((k_here; k_dflt (refine' fmod_safe ?k1 ?k2 ?_; (case k1 => with_unfolding_all rfl); (case k2 => decide +kernel); k_whole)))) | ((with_reducible show wpAny _ _ (binaryOp .Div (Value.float _ _) (Value.float _ _)) _ _ _); with_reducible ((k_here; k_dflt (refine' fdiv_safe ?k1 ?k2 ?_; (case k1 => with_unfolding_all rfl); (case k2 => decide +kernel); k_whole)))) | ((with_reducible show wpAny _ _ (binaryOp .Div (Value.int _ _) (Value.int _ _)) _ _ _); with_reducible ((k_here; k_dflt (refine' div_safe ?k1 ?k2 ?k3 ?_; (case k1 => with_unfolding_all rfl); (case k2 => omega); (case k3 => omega); k_whole)))) | ((with_reducible show wpAny _ _ (call (Value.builtin "min") _) _ _ _); with_reducible ((k_here; (with_reducible show wpAny _ _ (call (Value.builtin _) [Value.int _ _, Value.int _ _, Value.int _ _]) _ _ _); k_dflt (refine' min3_N ?k1 ?k2 ?k3 ?_; (case k1 => with_unfolding_all rfl); (case k2 => k_asm); (case k3 => k_asm); k_whole); intro h' tk' tt' F' N'; (try k_sweep)))) | ((with_reducible show wpAny _ _ (call (Value.builtin "max") _) _ _ _); with_reducible ((k_here; (with_reducible show wpAny _ _ (call (Value.builtin _) [Value.int _ _, Value.int _ _, Value.int _ _]) _ _ _); k_dflt (refine' max3_N ?k1 ?k2 ?k3 ?_; (case k1 => with_unfolding_all rfl); (case k2 => k_asm); (case k3 => k_asm); k_whole); intro h' tk' tt' F' N'; (try k_sweep)))) | walk1 | dsimp only | (leave1; walk_say "STEP leave1"; try dsimp only) | fail "no step"))
        rename Fr _ _ _ _ => F8
        rename News _ _ _ _ => N8
        dsimp only [WhileStep2]
        exact ⟨_, _, _, _, v.length, rfl, F8, N8, by simp, _, u ++ [c], v, _, p4 + 1, _, _, _, _, _, pins3 rfl rfl rfl, rfl, rfl, by rw [hw]; simp, rfl, drop_next hp4, by rw [b5]; omega⟩
    · rcases items with _ | ⟨⟨bq, c⟩, its⟩
      · exact absurd rfl hi0
      have bw : wsB ws = true := by rcases hws with rfl | rfl <;> decide +kernel
      have bn : nlc (ch1 ws) = 0 := by rcases hws with rfl | rfl <;> decide +kernel
      have hc9 : Pl c := hpl (bq, c) (List.Mem.head _)
      have hp2 : ∀ i ∈ its, Pl i.2 := fun i hi => hpl i (.tail _ hi)
      obtain ⟨word, hww⟩ : ∃ word, word = [c] ++ its.map Prod.snd := ⟨_, rfl⟩
      have hw8 : ((bq, c) :: its).map Prod.snd = word := by rw [hww]; rfl
      rw [hw8] at hret hw9
      have b3 := ws_pl hc9
      have b4 := bs_pl hc9
      have b5 := nl_pl hc9
      have b6 := qu_pl hc9
      cases bq with
      | false =>
      have hp5 : cz.drop p' = c :: (sp its ++ ws :: left) := hp'
      refine tok_some hp5 e_ne I2 (by k_asm) (by k_asm) F2 (by k_asm) N2 (by k_asm) rfl (by ktr_room) (by ktr_units) mD mq ?_
      intro t1 t2 n2 tl2 h3 tk3 F3 N3
      clear F2 N2
      dsimp only
      (repeat' ((fail_if_success (with_reducible show wpAny _ _ (exec (Stmt.For _ _ _ _ _) _) _ _ _)); (fail_if_success (with_reducible show codeAny _ _ (Code.forLoop _ _ _ _ _) _ _)); first | (k_unfold; (try dsimp only)) | (k_end; wrow_close) | (with_reducible ((k_here; (with_reducible show wpAny _ _ (call (Value.ref 84) _) _ _ _); k_dflt (refine' (ConK.c (read_char_some _ _ _ _ _ _ _ _ _ _ _ _ _ _ _ _ _ _ _ _ _ _ _ _ _ _ _ ?ka ?kb)) _ _ _ _ _ _ _ _ _ _ _ _ _ _ _ _ _ _ _ ?k0 ?k1 ?k2 ?k3 ?k4 ?k5 ?kK ?kd ?ku ?_; (((case k0 => assumption); (case k1 => first | k_asm | ktn_no "the frames below"); (case k2 => first | k_asm | ktn_no "the frame"); (case k3 => first | k_asm | ktn_no "the written part"); (case k4 => first | k_asm | ktn_no "the ledger"); (case k5 => first | k_asm | ktn_no "the top"); (case kK => first | exact rfl | assumption | ktn_no "no def"); (case kd => first | ktr_room | ktn_no "the room"); (case ku => first | ktr_units | ktn_no "the units"))); (case kb => assumption); (case ka => assumption)); intro v' news' h' tk' F' N' hr'; obtain ⟨t1', t2', n', tl', hv', hn'⟩ := hr'; subst hv'; subst hn'))) | (with_reducible ((k_here; (with_reducible show wpAny _ _ (inplaceOp _ (Value.str (tkS _) _) (Value.str (ch1 _) _)) _ _ _); k_dflt (refine' add_tk ?k1 ?_; (case k1 => omega)); intro t' tk'))) | (with_reducible ((k_here; (with_reducible show wpAny _ _ (inplaceOp _ (Value.str (Str.ofString "") _) (Value.str (ch1 _) _)) _ _ _); k_dflt (refine' add_tk0 ?_); intro t' tk'))) | (with_reducible ((k_here; (with_reducible show wpAny _ _ (compareOp _ (Value.str (ch1 _) _) (Value.str (Str.ofString "\\") _)) _ _ _); k_dflt (refine' eq_bs ?k1 ?_; (case k1 => assumption); k_whole)))) | (with_reducible ((k_here; (with_reducible show wpAny _ _ (compareOp _ (Value.str (ch1 _) _) (Value.str (Str.ofString "\"") _)) _ _ _); k_dflt (refine' eq_qu ?k1 ?_; (case k1 => assumption); k_whole)))) | (with_reducible ((k_here; (with_reducible show wpAny _ _ (compareOp _ (Value.str (ch1 _) _) (Value.str _ _)) _ _ _); k_dflt (refine' in_ws ?k1 ?_; (case k1 => assumption); k_whole)))) | ((with_reducible show wpAny _ _ (pyIter (Value.ref _)) _ _ _); with_reducible ((k_here; k_dflt (refine' again_ci ?k1 ?_; (case k1 => exact News.get (by k_asm) (by k_mem)); k_whole)))) | ((with_reducible show wpAny _ _ (call (Value.builtin "iter") _) _ _ _); with_reducible ((k_here; (with_reducible show wpAny _ _ (call (Value.builtin _) [Value.ref _, Value.str _ _]) _ _ _); k_dflt (refine' iter_ci ?F ?N ?q ?_; (case F => k_asm); (case N => k_asm); (case q => k_mem)); intro D' h' F' N' l1; (try k_lt l1)))) | ((with_reducible show wpAny _ _ (execs (_ :: _) _) _ _ _); with_reducible ((refine execs_cut ?_; intro _ _))) | ((with_reducible show wpAny _ _ (callWith _ (Value.ref _) _ _ _) _ _ _); with_reducible ((k_here; k_dflt (first | (refine' callWith_K ?k1 ?k2 ?_; (case k1 => k_asm); (case k2 => k_is); k_whole) | (refine' callWith_K0 ?k1 ?k2 ?_; (case k1 => k_in); (case k2 => k_is); k_whole))))) | ((with_reducible show wpAny _ _ (binaryOp .Mult (Value.int _ _) (Value.float _ _)) _ _ _); with_reducible ((k_here; k_dflt (refine' mulif_safe ?k1 ?_; (case k1 => omega); k_whole)))) | ((with_reducible show wpAny _ _ (binaryOp .Mult (Value.float _ _) (Value.int _ _)) _ _ _); with_reducible ((k_here; k_dflt (refine' mulfi_safe ?k1 ?_; (case k1 => omega); k_whole)))) | ((with_reducible show wpAny _ _ (binaryOp .Mod (Value.float _ _) (Value.float _ _)) _ _ _); with_reducible ((k_here; k_dflt (refine' fmod_safe ?k1 ?k2 ?_; (case k1 => with_unfolding_all rfl); (case k2 => decide +kernel); k_whole)))) | ((with_reducible show wpAny _ _ (binaryOp .Div (Value.float _ _) (Value.float _ _)) _ _ _); with_reducible ((k_here; k_dflt (refine' fdiv_safe ?k1 ?k2 ?_; (case k1 => with_unfolding_all rfl); (case k2 => decide +kernel); k_whole)))) | ((with_reducible show wpAny _ _ (binaryOp .Div (Value.int _ _) (Value.int _ _)) _ _ _); with_reducible ((k_here; k_dflt (refine' div_safe ?k1 ?k2 ?k3 ?_; (case k1 => with_unfolding_all rfl); (case k2 => omega); (case k3 => omega); k_whole)))) | ((with_reducible show wpAny _ _ (call (Value.builtin "min") _) _ _ _); with_reducible ((k_here; (with_reducible show wpAny _ _ (call (Value.builtin _) [Value.int _ _, Value.int _ _, Value.int _ _]) _ _ _); k_dflt (refine' min3_N ?k1 ?k2 ?k3 ?_; (case k1 => with_unfolding_all rfl); (case k2 => k_asm); (case k3 => k_asm); k_whole); intro h' tk' tt' F' N'; (try k_sweep)))) | ((with_reducible show wpAny _ _ (call (Value.builtin "max") _) _ _ _); with_reducible ((k_here; (with_reducible show wpAny _ _ (call (Value.builtin _) [Value.int _ _, Value.int _ _, Value.int _ _]) _ _ _); k_dflt (refine' max3_N ?k1 ?k2 ?k3 ?_; (case k1 => with_unfolding_all rfl); (case k2 => k_asm); (case k3 => k_asm); k_whole); intro h' tk' tt' F' N'; (try k_sweep)))) | walk1 | dsimp only | (leave1; walk_say "STEP leave1"; try dsimp only) | fail "no step"))
      refine wpAny_For ?_
      (repeat' ((fail_if_success (with_reducible show wpAny _ _ (exec (Stmt.For _ _ _ _ _) _) _ _ _)); (fail_if_success (with_reducible show codeAny _ _ (Code.forLoop _ _ _ _ _) _ _)); first | (k_unfold; (try dsimp only)) | (k_end; wrow_close) | (with_reducible ((k_here; (with_reducible show wpAny _ _ (call (Value.ref 84) _) _ _ _); k_dflt (refine' (ConK.c (read_char_some _ _ _ _ _ _ _ _ _ _ _ _ _ _ _ _ _ _ _ _ _ _ _ _ _ _ _ ?ka ?kb)) _ _ _ _ _ _ _ _ _ _ _ _ _ _ _ _ _ _ _ ?k0 ?k1 ?k2 ?k3 ?k4 ?k5 ?kK ?kd ?ku ?_; (((case k0 => assumption); (case k1 => first | k_asm | ktn_no "the frames below"); (case k2 => first | k_asm | ktn_no "the frame"); (case k3 => first | k_asm | ktn_no "the written part"); (case k4 => first | k_asm | ktn_no "the ledger"); (case k5 => first | k_asm | ktn_no "the top"); (case kK => first | exact rfl | assumption | ktn_no "no def"); (case kd => first | ktr_room | ktn_no "the room"); (case ku => first | ktr_units | ktn_no "the units"))); (case kb => assumption); (case ka => assumption)); intro v' news' h' tk' F' N' hr'; obtain ⟨t1', t2', n', tl', hv', hn'⟩ := hr'; subst hv'; subst hn'))) | (with_reducible ((k_here; (with_reducible show wpAny _ _ (inplaceOp _ (Value.str (tkS _) _) (Value.str (ch1 _) _)) _ _ _); k_dflt (refine' add_tk ?k1 ?_; (case k1 => omega)); intro t' tk'))) | (with_reducible ((k_here; (with_reducible show wpAny _ _ (inplaceOp _ (Value.str (Str.ofString "") _) (Value.str (ch1 _) _)) _ _ _); k_dflt (refine' add_tk0 ?_); intro t' tk'))) | (with_reducible ((k_here; (with_reducible show wpAny _ _ (compareOp _ (Value.str (ch1 _) _) (Value.str (Str.ofString "\\") _)) _ _ _); k_dflt (refine' eq_bs ?k1 ?_; (case k1 => assumption); k_whole)))) | (with_reducible ((k_here; (with_reducible show wpAny _ _ (compareOp _ (Value.str (ch1 _) _) (Value.str (Str.ofString "\"") _)) _ _ _); k_dflt (refine' eq_qu ?k1 ?_; (case k1 => assumption); k_whole)))) | (with_reducible ((k_here; (with_reducible show wpAny _ _ (compareOp _ (Value.str (ch1 _) _) (Value.str _ _)) _ _ _); k_dflt (refine' in_ws ?k1 ?_; (case k1 => assumption); k_whole)))) | ((with_reducible show wpAny _ _ (pyIter (Value.ref _)) _ _ _); with_reducible ((k_here; k_dflt (refine' again_ci ?k1 ?_; (case k1 => exact News.get (by k_asm) (by k_mem)); k_whole)))) | ((with_reducible show wpAny _ _ (call (Value.builtin "iter") _) _ _ _); with_reducible ((k_here; (with_reducible show wpAny _ _ (call (Value.builtin _) [Value.ref _, Value.str _ _]) _ _ _); k_dflt (refine' iter_ci ?F ?N ?q ?_; (case F => k_asm); (case N => k_asm); (case q => k_mem)); intro D' h' F' N' l1; (try k_lt l1)))) | ((with_reducible show wpAny _ _ (execs (_ :: _) _) _ _ _); with_reducible ((refine execs_cut ?_; intro _ _))) | ((with_reducible show wpAny _ _ (callWith _ (Value.ref _) _ _ _) _ _ _); with_reducible ((k_here; k_dflt (first | (refine' callWith_K ?k1 ?k2 ?_; (case k1 => k_asm); (case k2 => k_is); k_whole) | (refine' callWith_K0 ?k1 ?k2 ?_; (case k1 => k_in); (case k2 => k_is); k_whole))))) | ((with_reducible show wpAny _ _ (binaryOp .Mult (Value.int _ _) (Value.float _ _)) _ _ _); with_reducible ((k_here; k_dflt (refine' mulif_safe ?k1 ?_; (case k1 => omega); k_whole)))) | ((with_reducible show wpAny _ _ (binaryOp .Mult (Value.float _ _) (Value.int _ _)) _ _ _); with_reducible ((k_here; k_dflt (refine' mulfi_safe ?k1 ?_; (case k1 => omega); k_whole)))) | ((with_reducible show wpAny _ _ (binaryOp .Mod (Value.float _ _) (Value.float _ _)) _ _ _); with_reducible ((k_here; k_dflt (refine' fmod_safe ?k1 ?k2 ?_; (case k1 => with_unfolding_all rfl); (case k2 => decide +kernel); k_whole)))) | ((with_reducible show wpAny _ _ (binaryOp .Div (Value.float _ _) (Value.float _ _)) _ _ _); with_reducible ((k_here; k_dflt (refine' fdiv_safe ?k1 ?k2 ?_; (case k1 => with_unfolding_all rfl); (case k2 => decide +kernel); k_whole)))) | ((with_reducible show wpAny _ _ (binaryOp .Div (Value.int _ _) (Value.int _ _)) _ _ _); with_reducible ((k_here; k_dflt (refine' div_safe ?k1 ?k2 ?k3 ?_; (case k1 => with_unfolding_all rfl); (case k2 => omega); (case k3 => omega); k_whole)))) | ((with_reducible show wpAny _ _ (call (Value.builtin "min") _) _ _ _); with_reducible ((k_here; (with_reducible show wpAny _ _ (call (Value.builtin _) [Value.int _ _, Value.int _ _, Value.int _ _]) _ _ _); k_dflt (refine' min3_N ?k1 ?k2 ?k3 ?_; (case k1 => with_unfolding_all rfl); (case k2 => k_asm); (case k3 => k_asm); k_whole); intro h' tk' tt' F' N'; (try k_sweep)))) | ((with_reducible show wpAny _ _ (call (Value.builtin "max") _) _ _ _); with_reducible ((k_here; (with_reducible show wpAny _ _ (call (Value.builtin _) [Value.int _ _, Value.int _ _, Value.int _ _]) _ _ _); k_dflt (refine' max3_N ?k1 ?k2 ?k3 ?_; (case k1 => with_unfolding_all rfl); (case k2 => k_asm); (case k3 => k_asm); k_whole); intro h' tk' tt' F' N'; (try k_sweep)))) | walk1 | dsimp only | (leave1; walk_say "STEP leave1"; try dsimp only) | fail "no step"))
      rename Fr _ _ _ _ => F5
      rename News _ _ _ _ => N5
      refine for_own (fun n1 m1 news1 => ∃ (m' : Str → Option Value) (u : List Nat) (v : List (Bool × Nat)) (p' n' : Nat) (tl' t2' t3' : Tok) (ln' : Int), m1 = (fun y => if y = Str.ofString "self" then some (.ref lx) else if y = Str.ofString "token" then some (.str (tkS u) t3') else if y = Str.ofString "fiter" then some (.ref D9) else m' y) ∧
          news1 = (dl, lexD w k1 k2 k3 k4 tl' tw ln' fs pb) :: (l, listOf #[.int (p' : Int) t2'] n') :: R2 ∧ word = u ++ v.map Prod.snd ∧ (∀ i ∈ v, Pl i.2) ∧ n1 = v.length ∧ cz.drop p' = sp v ++ ws :: left ∧ LN = ln')
        F5 N5 (n₀ := its.length) ⟨_, [c], its, p' + 1, _, _, _, _, _, pins3 rfl rfl rfl, rfl, hww, hp2, rfl, drop_next hp5, by rw [b5]; omega⟩ ?_ (by passes_own) (by intro _; rfl)
      clear F5 N5
      intro n3 m3 news3 h5 tk5 F6 N6 J W9
      obtain ⟨m4, u, v, p4, n4, tl4, t4, t5, ln4, rfl, rfl, hw, hv, rfl, hp4, rfl⟩ := J
      rcases v with _ | ⟨⟨bq, c⟩, v⟩
      · refine tok_some (show cz.drop p4 = ws :: left from hp4) e_ne I2 (by k_asm) (by k_asm) F6 (by k_asm) N6 (by k_asm) rfl (by ktr_room) (by ktr_units) mD mq ?_
        intro t7 t8 n7 tl7 h7 tk7 F7 N7
        clear F6 N6
        dsimp only
        (repeat' ((fail_if_success (with_reducible show wpAny _ _ (exec (Stmt.For _ _ _ _ _) _) _ _ _)); (fail_if_success (with_reducible show codeAny _ _ (Code.forLoop _ _ _ _ _) _ _)); first | (k_unfold; (try dsimp only)) | (k_end; wrow_close) | (with_reducible ((k_here; (with_reducible show wpAny _ _ (call (Value.ref 84) _) _ _ _); k_dflt (refine' (ConK.c (read_char_some _ _ _ _ _ _ _ _ _ _ _ _ _ _ _ _ _ _ _ _ _ _ _ _ _ _ _ ?ka ?kb)) _ _ _ _ _ _ _ _ _ _ _ _ _ _ _ _ _ _ _ ?k0 ?k1 ?k2 ?k3 ?k4 ?k5 ?kK ?kd ?ku ?_; (((case k0 => assumption); (case k1 => first | k_asm | ktn_no "the frames below"); (case k2 => first | k_asm | ktn_no "the frame"); (case k3 => first | k_asm | ktn_no "the written part"); (case k4 => first | k_asm | ktn_no "the ledger"); (case k5 => first | k_asm | ktn_no "the top"); (case kK => first | exact rfl | assumption | ktn_no "no def"); (case kd => first | ktr_room | ktn_no "the room"); (case ku => first | ktr_units | ktn_no "the units"))); (case kb => assumption); (case ka => assumption)); intro v' news' h' tk' F' N' hr'; obtain ⟨t1', t2', n', tl', hv', hn'⟩ := hr'; subst hv'; subst hn'))) | (with_reducible ((k_here; (with_reducible show wpAny _ _ (inplaceOp _ (Value.str (tkS _) _) (Value.str (ch1 _) _)) _ _ _); k_dflt (refine' add_tk ?k1 ?_; (case k1 => omega)); intro t' tk'))) | (with_reducible ((k_here; (with_reducible show wpAny _ _ (inplaceOp _ (Value.str (Str.ofString "") _) (Value.str (ch1 _) _)) _ _ _); k_dflt (refine' add_tk0 ?_); intro t' tk'))) | (with_reducible ((k_here; (with_reducible show wpAny _ _ (compareOp _ (Value.str (ch1 _) _) (Value.str (Str.ofString "\\") _)) _ _ _); k_dflt (refine' eq_bs ?k1 ?_; (case k1 => assumption); k_whole)))) | (with_reducible ((k_here; (with_reducible show wpAny _ _ (compareOp _ (Value.str (ch1 _) _) (Value.str (Str.ofString "\"") _)) _ _ _); k_dflt (refine' eq_qu ?k1 ?_; (case k1 => assumption); k_whole)))) | (with_reducible ((k_here; (with_reducible show wpAny _ _ (compareOp _ (Value.str (ch1 _) _) (Value.str _ _)) _ _ _); k_dflt (refine' in_ws ?k1 ?_; (case k1 => assumption); k_whole)))) | ((with_reducible show wpAny _ _ (pyIter (Value.ref _)) _ _ _); with_reducible ((k_here; k_dflt (refine' again_ci ?k1 ?_; (case k1 => exact News.get (by k_asm) (by k_mem)); k_whole)))) | ((with_reducible show wpAny _ _ (call (Value.builtin "iter") _) _ _ _); with_reducible ((k_here; (with_reducible show wpAny _ _ (call (Value.builtin _) [Value.ref _, Value.str _ _]) _ _ _); k_dflt (refine' iter_ci ?F ?N ?q ?_; (case F => k_asm); (case N => k_asm); (case q => k_mem)); intro D' h' F' N' l1; (try k_lt l1)))) | ((with_reducible show wpAny _ _ (execs (_ :: _) _) _ _ _); with_reducible ((refine execs_cut ?_; intro _ _))) | ((with_reducible show wpAny _ _ (callWith _ (Value.ref _) _ _ _) _ _ _); with_reducible ((k_here; k_dflt (first | (refine' callWith_K ?k1 ?k2 ?_; (case k1 => k_asm); (case k2 => k_is); k_whole) | (refine' callWith_K0 ?k1 ?k2 ?_; (case k1 => k_in); (case k2 => k_is); k_whole))))) | ((with_reducible show wpAny _ _ (binaryOp .Mult (Value.int _ _) (Value.float _ _)) _ _ _); with_reducible ((k_here; k_dflt (refine' mulif_safe ?k1 ?_; (case k1 => omega); k_whole)))) | ((with_reducible show wpAny _ _ (binaryOp .Mult (Value.float _ _) (Value.int _ _)) _ _ _); with_reducible ((k_here; k_dflt (refine' mulfi_safe ?k1 ?_; (case k1 => omega); k_whole)))) | ((with_reducible show wpAny _ _ (binaryOp .Mod (Value.float _ _) (Value.float _ _)) _ _ _); with_reducible ((k_here; k_dflt (refine' fmod_safe ?k1 ?k2 ?_; (case k1 => with_unfolding_all rfl); (case k2 => decide +kernel); k_whole)))) | ((with_reducible show wpAny _ _ (binaryOp .Div (Value.float _ _) (Value.float _ _)) _ _ _); with_reducible ((k_here; k_dflt (refine' fdiv_safe ?k1 ?k2 ?_; (case k1 => with_unfolding_all rfl); (case k2 => decide +kernel); k_whole)))) | ((with_reducible show wpAny _ _ (binaryOp .Div (Value.int _ _) (Value.int _ _)) _ _ _); with_reducible ((k_here; k_dflt (refine' div_safe ?k1 ?k2 ?k3 ?_; (case k1 => with_unfolding_all rfl); (case k2 => omega); (case k3 => omega); k_whole)))) | ((with_reducible show wpAny _ _ (call (Value.builtin "min") _) _ _ _); with_reducible ((k_here; (with_reducible show wpAny _ _ (call (Value.builtin _) [Value.int _ _, Value.int _ _, Value.int _ _]) _ _ _); k_dflt (refine' min3_N ?k1 ?k2 ?k3 ?_; (case k1 => with_unfolding_all rfl); (case k2 => k_asm); (case k3 => k_asm); k_whole); intro h' tk' tt' F' N'; (try k_sweep)))) | ((with_reducible show wpAny _ _ (call (Value.builtin "max") _) _ _ _); with_reducible ((k_here; (with_reducible show wpAny _ _ (call (Value.builtin _) [Value.int _ _, Value.int _ _, Value.int _ _]) _ _ _); k_dflt (refine' max3_N ?k1 ?k2 ?k3 ?_; (case k1 => with_unfolding_all rfl); (case k2 => k_asm); (case k3 => k_asm); k_whole); intro h' tk' tt' F' N'; (try k_sweep)))) | walk1 | dsimp only | (leave1; walk_say "STEP leave1"; try dsimp only) | fail "no step"))
        dsimp only [WhileStep2]
        (repeat' ((fail_if_success (with_reducible show wpAny _ _ (exec (Stmt.For _ _ _ _ _) _) _ _ _)); (fail_if_success (with_reducible show codeAny _ _ (Code.forLoop _ _ _ _ _) _ _)); first | (k_unfold; (try dsimp only)) | (k_end; wrow_close) | (with_reducible ((k_here; (with_reducible show wpAny _ _ (call (Value.ref 84) _) _ _ _); k_dflt (refine' (ConK.c (read_char_some _ _ _ _ _ _ _ _ _ _ _ _ _ _ _ _ _ _ _ _ _ _ _ _ _ _ _ ?ka ?kb)) _ _ _ _ _ _ _ _ _ _ _ _ _ _ _ _ _ _ _ ?k0 ?k1 ?k2 ?k3 ?k4 ?k5 ?kK ?kd ?ku ?_; (((case k0 => assumption); (case k1 => first | k_asm | ktn_no "the frames below"); (case k2 => first | k_asm | ktn_no "the frame"); (case k3 => first | k_asm | ktn_no "the written part"); (case k4 => first | k_asm | ktn_no "the ledger"); (case k5 => first | k_asm | ktn_no "the top"); (case kK => first | exact rfl | assumption | ktn_no "no def"); (case kd => first | ktr_room | ktn_no "the room"); (case ku => first | ktr_units | ktn_no "the units"))); (case kb => assumption); (case ka => assumption)); intro v' news' h' tk' F' N' hr'; obtain ⟨t1', t2', n', tl', hv', hn'⟩ := hr'; subst hv'; subst hn'))) | (with_reducible ((k_here; (with_reducible show wpAny _ _ (inplaceOp _ (Value.str (tkS _) _) (Value.str (ch1 _) _)) _ _ _); k_dflt (refine' add_tk ?k1 ?_; (case k1 => omega)); intro t' tk'))) | (with_reducible ((k_here; (with_reducible show wpAny _ _ (inplaceOp _ (Value.str (Str.ofString "") _) (Value.str (ch1 _) _)) _ _ _); k_dflt (refine' add_tk0 ?_); intro t' tk'))) | (with_reducible ((k_here; (with_reducible show wpAny _ _ (compareOp _ (Value.str (ch1 _) _) (Value.str (Str.ofString "\\") _)) _ _ _); k_dflt (refine' eq_bs ?k1 ?_; (case k1 => assumption); k_whole)))) | (with_reducible ((k_here; (with_reducible show wpAny _ _ (compareOp _ (Value.str (ch1 _) _) (Value.str (Str.ofString "\"") _)) _ _ _); k_dflt (refine' eq_qu ?k1 ?_; (case k1 => assumption); k_whole)))) | (with_reducible ((k_here; (with_reducible show wpAny _ _ (compareOp _ (Value.str (ch1 _) _) (Value.str _ _)) _ _ _); k_dflt (refine' in_ws ?k1 ?_; (case k1 => assumption); k_whole)))) | ((with_reducible show wpAny _ _ (pyIter (Value.ref _)) _ _ _); with_reducible ((k_here; k_dflt (refine' again_ci ?k1 ?_; (case k1 => exact News.get (by k_asm) (by k_mem)); k_whole)))) | ((with_reducible show wpAny _ _ (call (Value.builtin "iter") _) _ _ _); with_reducible ((k_here; (with_reducible show wpAny _ _ (call (Value.builtin _) [Value.ref _, Value.str _ _]) _ _ _); k_dflt (refine' iter_ci ?F ?N ?q ?_; (case F => k_asm); (case N => k_asm); (case q => k_mem)); intro D' h' F' N' l1; (try k_lt l1)))) | ((with_reducible show wpAny _ _ (execs (_ :: _) _) _ _ _); with_reducible ((refine execs_cut ?_; intro _ _))) | ((with_reducible show wpAny _ _ (callWith _ (Value.ref _) _ _ _) _ _ _); with_reducible ((k_here; k_dflt (first | (refine' callWith_K ?k1 ?k2 ?_; (case k1 => k_asm); (case k2 => k_is); k_whole) | (refine' callWith_K0 ?k1 ?k2 ?_; (case k1 => k_in); (case k2 => k_is); k_whole))))) | ((with_reducible show wpAny _ _ (binaryOp .Mult (Value.int _ _) (Value.float _ _)) _ _ _); with_reducible ((k_here; k_dflt (refine' mulif_safe ?k1 ?_; (case k1 => omega); k_whole)))) | ((with_reducible show wpAny _ _ (binaryOp .Mult (Value.float _ _) (Value.int _ _)) _ _ _); with_reducible ((k_here; k_dflt (refine' mulfi_safe ?k1 ?_; (case k1 => omega); k_whole)))) | ((with_reducible show wpAny _ _ (binaryOp .Mod (Value.float _ _) (Value.float _ _)) _ _ _); with_reducible ((k_here; k_dflt (refine' fmod_safe ?k1 ?k2 ?_; (case k1 => with_unfolding_all rfl); (case k2 => decide +kernel); k_whole)))) | ((with_reducible show wpAny _ _ (binaryOp .Div (Value.float _ _) (Value.float _ _)) _ _ _); with_reducible ((k_here; k_dflt (refine' fdiv_safe ?k1 ?k2 ?_; (case k1 => with_unfolding_all rfl); (case k2 => decide +kernel); k_whole)))) | ((with_reducible show wpAny _ _ (binaryOp .Div (Value.int _ _) (Value.int _ _)) _ _ _); with_reducible ((k_here; k_dflt (refine' div_safe ?k1 ?k2 ?k3 ?_; (case k1 => with_unfolding_all rfl); (case k2 => omega); (case k3 => omega); k_whole)))) | ((with_reducible show wpAny _ _ (call (Value.builtin "min") _) _ _ _); with_reducible ((k_here; (with_reducible show wpAny _ _ (call (Value.builtin _) [Value.int _ _, Value.int _ _, Value.int _ _]) _ _ _); k_dflt (refine' min3_N ?k1 ?k2 ?k3 ?_; (case k1 => with_unfolding_all rfl); (case k2 => k_asm); (case k3 => k_asm); k_whole); intro h' tk' tt' F' N'; (try k_sweep)))) | ((with_reducible show wpAny _ _ (call (Value.builtin "max") _) _ _ _); with_reducible ((k_here; (with_reducible show wpAny _ _ (call (Value.builtin _) [Value.int _ _, Value.int _ _, Value.int _ _]) _ _ _); k_dflt (refine' max3_N ?k1 ?k2 ?k3 ?_; (case k1 => with_unfolding_all rfl); (case k2 => k_asm); (case k3 => k_asm); k_whole); intro h' tk' tt' F' N'; (try k_sweep)))) | walk1 | dsimp only | (leave1; walk_say "STEP leave1"; try dsimp only) | fail "no step"))
        (try dsimp only [WhileStep2])
        (repeat' ((fail_if_success (with_reducible show wpAny _ _ (exec (Stmt.For _ _ _ _ _) _) _ _ _)); (fail_if_success (with_reducible show codeAny _ _ (Code.forLoop _ _ _ _ _) _ _)); first | (k_unfold; (try dsimp only)) | (k_end; wrow_close) | (with_reducible ((k_here; (with_reducible show wpAny _ _ (call (Value.ref 84) _) _ _ _); k_dflt (refine' (ConK.c (read_char_some _ _ _ _ _ _ _ _ _ _ _ _ _ _ _ _ _ _ _ _ _ _ _ _ _ _ _ ?ka ?kb)) _ _ _ _ _ _ _ _ _ _ _ _ _ _ _ _ _ _ _ ?k0 ?k1 ?k2 ?k3 ?k4 ?k5 ?kK ?kd ?ku ?_; (((case k0 => assumption); (case k1 => first | k_asm | ktn_no "the frames below"); (case k2 => first | k_asm | ktn_no "the frame"); (case k3 => first | k_asm | ktn_no "the written part"); (case k4 => first | k_asm | ktn_no "the ledger"); (case k5 => first | k_asm | ktn_no "the top"); (case kK => first | exact rfl | assumption | ktn_no "no def"); (case kd => first | ktr_room | ktn_no "the room"); (case ku => first | ktr_units | ktn_no "the units"))); (case kb => assumption); (case ka => assumption)); intro v' news' h' tk' F' N' hr'; obtain ⟨t1', t2', n', tl', hv', hn'⟩ := hr'; subst hv'; subst hn'))) | (with_reducible ((k_here; (with_reducible show wpAny _ _ (inplaceOp _ (Value.str (tkS _) _) (Value.str (ch1 _) _)) _ _ _); k_dflt (refine' add_tk ?k1 ?_; (case k1 => omega)); intro t' tk'))) | (with_reducible ((k_here; (with_reducible show wpAny _ _ (inplaceOp _ (Value.str (Str.ofString "") _) (Value.str (ch1 _) _)) _ _ _); k_dflt (refine' add_tk0 ?_); intro t' tk'))) | (with_reducible ((k_here; (with_reducible show wpAny _ _ (compareOp _ (Value.str (ch1 _) _) (Value.str (Str.ofString "\\") _)) _ _ _); k_dflt (refine' eq_bs ?k1 ?_; (case k1 => assumption); k_whole)))) | (with_reducible ((k_here; (with_reducible show wpAny _ _ (compareOp _ (Value.str (ch1 _) _) (Value.str (Str.ofString "\"") _)) _ _ _); k_dflt (refine' eq_qu ?k1 ?_; (case k1 => assumption); k_whole)))) | (with_reducible ((k_here; (with_reducible show wpAny _ _ (compareOp _ (Value.str (ch1 _) _) (Value.str _ _)) _ _ _); k_dflt (refine' in_ws ?k1 ?_; (case k1 => assumption); k_whole)))) | ((with_reducible show wpAny _ _ (pyIter (Value.ref _)) _ _ _); with_reducible ((k_here; k_dflt (refine' again_ci ?k1 ?_; (case k1 => exact News.get (by k_asm) (by k_mem)); k_whole)))) | ((with_reducible show wpAny _ _ (call (Value.builtin "iter") _) _ _ _); with_reducible ((k_here; (with_reducible show wpAny _ _ (call (Value.builtin _) [Value.ref _, Value.str _ _]) _ _ _); k_dflt (refine' iter_ci ?F ?N ?q ?_; (case F => k_asm); (case N => k_asm); (case q => k_mem)); intro D' h' F' N' l1; (try k_lt l1)))) | ((with_reducible show wpAny _ _ (execs (_ :: _) _) _ _ _); with_reducible ((refine execs_cut ?_; intro _ _))) | ((with_reducible show wpAny _ _ (callWith _ (Value.ref _) _ _ _) _ _ _); with_reducible ((k_here; k_dflt (first | (refine' callWith_K ?k1 ?k2 ?_; (case k1 => k_asm); (case k2 => k_is); k_whole) | (refine' callWith_K0 ?k1 ?k2 ?_; (case k1 => k_in); (case k2 => k_is); k_whole))))) | ((with_reducible show wpAny _ _ (binaryOp .Mult (Value.int _ _) (Value.float _ _)) _ _ _); with_reducible ((k_here; k_dflt (refine' mulif_safe ?k1 ?_; (case k1 => omega); k_whole)))) | ((with_reducible show wpAny _ _ (binaryOp .Mult (Value.float _ _) (Value.int _ _)) _ _ _); with_reducible ((k_here; k_dflt (refine' mulfi_safe ?k1 ?_; (case k1 => omega); k_whole)))) | ((with_reducible show wpAny _ _ (binaryOp .Mod (Value.float _ _) (Value.float _ _)) _ _ _); with_reducible ((k_here; k_dflt (refine' fmod_safe ?k1 ?k2 ?_; (case k1 => with_unfolding_all rfl); (case k2 => decide +kernel); k_whole)))) | ((with_reducible show wpAny _ _ (binaryOp .Div (Value.float _ _) (Value.float _ _)) _ _ _); with_reducible ((k_here; k_dflt (refine' fdiv_safe ?k1 ?k2 ?_; (case k1 => with_unfolding_all rfl); (case k2 => decide +kernel); k_whole)))) | ((with_reducible show wpAny _ _ (binaryOp .Div (Value.int _ _) (Value.int _ _)) _ _ _); with_reducible ((k_here; k_dflt (refine' div_safe ?k1 ?k2 ?k3 ?_; (case k1 => with_unfolding_all rfl); (case k2 => omega); (case k3 => omega); k_whole)))) | ((with_reducible show wpAny _ _ (call (Value.builtin "min") _) _ _ _); with_reducible ((k_here; (with_reducible show wpAny _ _ (call (Value.builtin _) [Value.int _ _, Value.int _ _, Value.int _ _]) _ _ _); k_dflt (refine' min3_N ?k1 ?k2 ?k3 ?_; (case k1 => with_unfolding_all rfl); (case k2 => k_asm); (case k3 => k_asm); k_whole); intro h' tk' tt' F' N'; (try k_sweep)))) | ((with_reducible show wpAny _ _ (call (Value.builtin "max") _) _ _ _); with_reducible ((k_here; (with_reducible show wpAny _ _ (call (Value.builtin _) [Value.int _ _, Value.int _ _, Value.int _ _]) _ _ _); k_dflt (refine' max3_N ?k1 ?k2 ?k3 ?_; (case k1 => with_unfolding_all rfl); (case k2 => k_asm); (case k3 => k_asm); k_whole); intro h' tk' tt' F' N'; (try k_sweep)))) | walk1 | dsimp only | (leave1; walk_say "STEP leave1"; try dsimp only) | fail "no step"))
        refine hret _ _ _ _ (by k_asm) (back3 (by k_asm) mpb hrR) ⟨_, _, _, _, p4 + 1, drop_next (show cz.drop p4 = ws :: left from hp4), by rw [hw, List.map_nil, List.append_nil]; rfl, by rw [bn, Int.add_zero]⟩
      · have hc9 : Pl c := hv (bq, c) (List.Mem.head _)
        have hv2 : ∀ i ∈ v, Pl i.2 := fun i hi => hv i (.tail _ hi)
        have b3 := ws_pl hc9
        have b4 := bs_pl hc9
        have b5 := nl_pl hc9
        have b6 : u.length ≤ 10 := by rw [hw] at hw9; simp at hw9; omega
        have b7 : word = (u ++ [c]) ++ v.map Prod.snd := by rw [hw]; simp
        cases bq with
        | false =>
          have hp6 : cz.drop p4 = c :: (sp v ++ ws :: left) := hp4
          refine tok_some hp6 e_ne I2 (by k_asm) (by k_asm) F6 (by k_asm) N6 (by k_asm) rfl (by ktr_room) (by ktr_units) mD mq ?_
          intro t7 t8 n7 tl7 h7 tk7 F7 N7
          clear F6 N6
          dsimp only
          (repeat' ((fail_if_success (with_reducible show wpAny _ _ (exec (Stmt.For _ _ _ _ _) _) _ _ _)); (fail_if_success (with_reducible show codeAny _ _ (Code.forLoop _ _ _ _ _) _ _)); first | (k_unfold; (try dsimp only)) | (k_end; wrow_close) | (with_reducible ((k_here; (with_reducible show wpAny _ _ (call (Value.ref 84) _) _ _ _); k_dflt (refine' (ConK.c (read_char_some _ _ _ _ _ _ _ _ _ _ _ _ _ _ _ _ _ _ _ _ _ _ _ _ _ _ _ ?ka ?kb)) _ _ _ _ _ _ _ _ _ _ _ _ _ _ _ _ _ _ _ ?k0 ?k1 ?k2 ?k3 ?k4 ?k5 ?kK ?kd ?ku ?_; (((case k0 => assumption); (case k1 => first | k_asm | ktn_no "the frames below"); (case k2 => first | k_asm | ktn_no "the frame"); (case k3 => first | k_asm | ktn_no "the written part"); (case k4 => first | k_asm | ktn_no "the ledger"); (case k5 => first | k_asm | ktn_no "the top"); (case kK => first | exact rfl | assumption | ktn_no "no def"); (case kd => first | ktr_room | ktn_no "the room"); (case ku => first | ktr_units | ktn_no "the units"))); (case kb => assumption); (case ka => assumption)); intro v' news' h' tk' F' N' hr'; obtain ⟨t1', t2', n', tl', hv', hn'⟩ := hr'; subst hv'; subst hn'))) | (with_reducible ((k_here; (with_reducible show wpAny _ _ (inplaceOp _ (Value.str (tkS _) _) (Value.str (ch1 _) _)) _ _ _); k_dflt (refine' add_tk ?k1 ?_; (case k1 => omega)); intro t' tk'))) | (with_reducible ((k_here; (with_reducible show wpAny _ _ (inplaceOp _ (Value.str (Str.ofString "") _) (Value.str (ch1 _) _)) _ _ _); k_dflt (refine' add_tk0 ?_); intro t' tk'))) | (with_reducible ((k_here; (with_reducible show wpAny _ _ (compareOp _ (Value.str (ch1 _) _) (Value.str (Str.ofString "\\") _)) _ _ _); k_dflt (refine' eq_bs ?k1 ?_; (case k1 => assumption); k_whole)))) | (with_reducible ((k_here; (with_reducible show wpAny _ _ (compareOp _ (Value.str (ch1 _) _) (Value.str (Str.ofString "\"") _)) _ _ _); k_dflt (refine' eq_qu ?k1 ?_; (case k1 => assumption); k_whole)))) | (with_reducible ((k_here; (with_reducible show wpAny _ _ (compareOp _ (Value.str (ch1 _) _) (Value.str _ _)) _ _ _); k_dflt (refine' in_ws ?k1 ?_; (case k1 => assumption); k_whole)))) | ((with_reducible show wpAny _ _ (pyIter (Value.ref _)) _ _ _); with_reducible ((k_here; k_dflt (refine' again_ci ?k1 ?_; (case k1 => exact News.get (by k_asm) (by k_mem)); k_whole)))) | ((with_reducible show wpAny _ _ (call (Value.builtin "iter") _) _ _ _); with_reducible ((k_here; (with_reducible show wpAny _ _ (call (Value.builtin _) [Value.ref _, Value.str _ _]) _ _ _); k_dflt (refine' iter_ci ?F ?N ?q ?_; (case F => k_asm); (case N => k_asm); (case q => k_mem)); intro D' h' F' N' l1; (try k_lt l1)))) | ((with_reducible show wpAny _ _ (execs (_ :: _) _) _ _ _); with_reducible ((refine execs_cut ?_; intro _ _))) | ((with_reducible show wpAny _ _ (callWith _ (Value.ref _) _ _ _) _ _ _); with_reducible ((k_here; k_dflt (first | (refine' callWith_K ?k1 ?k2 ?_; (case k1 => k_asm); (case k2 => k_is); k_whole) | (refine' callWith_K0 ?k1 ?k2 ?_; (case k1 => k_in); (case k2 => k_is); k_whole))))) | ((with_reducible show wpAny _ _ (binaryOp .Mult (Value.int _ _) (Value.float _ _)) _ _ _); with_reducible ((k_here; k_dflt (refine' mulif_safe ?k1 ?_; (case k1 => omega); k_whole)))) | ((with_reducible show wpAny _ _ (binaryOp .Mult (Value.float _ _) (Value.int _ _)) _ _ _); with_reducible ((k_here; k_dflt (refine' mulfi_safe ?k1 ?_; (case k1 => omega); k_whole)))) | ((with_reducible show wpAny _ _ (binaryOp .Mod (Value.float _ _) (Value.float _ _)) _ _ _); with_reducible ((k_here; k_dflt (refine' fmod_safe ?k1 ?k2 ?_; (case k1 => with_unfolding_all rfl); (case k2 => decide +kernel); k_whole)))) | ((with_reducible show wpAny _ _ (binaryOp .Div (Value.float _ _) (Value.float _ _)) _ _ _); with_reducible ((k_here; k_dflt (refine' fdiv_safe ?k1 ?k2 ?_; (case k1 => with_unfolding_all rfl); (case k2 => decide +kernel); k_whole)))) | ((with_reducible show wpAny _ _ (binaryOp .Div (Value.int _ _) (Value.int _ _)) _ _ _); with_reducible ((k_here; k_dflt (refine' div_safe ?k1 ?k2 ?k3 ?_; (case k1 => with_unfolding_all rfl); (case k2 => omega); (case k3 => omega); k_whole)))) | ((with_reducible show wpAny _ _ (call (Value.builtin "min") _) _ _ _); with_reducible ((k_here; (with_reducible show wpAny _ _ (call (Value.builtin _) [Value.int _ _, Value.int _ _, Value.int _ _]) _ _ _); k_dflt (refine' min3_N ?k1 ?k2 ?k3 ?_; (case k1 => with_unfolding_all rfl); (case k2 => k_asm); (case k3 => k_asm); k_whole); intro h' tk' tt' F' N'; (try k_sweep)))) | ((with_reducible show wpAny _ _ (call (Value.builtin "max") _) _ _ _); with_reducible ((k_here; (with_reducible show wpAny _ _ (call (Value.builtin _) [Value.int _ _, Value.int _ _, Value.int _ _]) _ _ _); k_dflt (refine' max3_N ?k1 ?k2 ?k3 ?_; (case k1 => with_unfolding_all rfl); (case k2 => k_asm); (case k3 => k_asm); k_whole); intro h' tk' tt' F' N'; (try k_sweep)))) | walk1 | dsimp only | (leave1; walk_say "STEP leave1"; try dsimp only) | fail "no step"))
          rename Fr _ _ _ _ => F8
          rename News _ _ _ _ => N8
          dsimp only [WhileStep2]
          exact ⟨_, _, _, _, v.length, rfl, F8, N8, by simp, _, u ++ [c], v, p4 + 1, _, _, _, _, _, pins3 rfl rfl rfl, rfl, b7, hv2, rfl, drop_next hp6, by rw [b5]; omega⟩
        | true =>
          have hp6 : cz.drop p4 = 92 :: (c :: (sp v ++ ws :: left)) := hp4
          have hp7 := drop_next hp6
          have b8 : wsB 92 = false := by decide +kernel
          have b9 : bsB 92 = true := by decide +kernel
          refine tok_some hp6 e_ne I2 (by k_asm) (by k_asm) F6 (by k_asm) N6 (by k_asm) rfl (by ktr_room) (by ktr_units) mD mq ?_
          intro t7 t8 n7 tl7 h7 tk7 F7 N7
          clear F6 N6
          dsimp only
          (repeat' ((fail_if_success (with_reducible show wpAny _ _ (exec (Stmt.For _ _ _ _ _) _) _ _ _)); (fail_if_success (with_reducible show codeAny _ _ (Code.forLoop _ _ _ _ _) _ _)); first | (k_unfold; (try dsimp only)) | (k_end; wrow_close) | (with_reducible ((k_here; (with_reducible show wpAny _ _ (call (Value.ref 84) _) _ _ _); k_dflt (refine' (ConK.c (read_char_some _ _ _ _ _ _ _ _ _ _ _ _ _ _ _ _ _ _ _ _ _ _ _ _ _ _ _ ?ka ?kb)) _ _ _ _ _ _ _ _ _ _ _ _ _ _ _ _ _ _ _ ?k0 ?k1 ?k2 ?k3 ?k4 ?k5 ?kK ?kd ?ku ?_; (((case k0 => assumption); (case k1 => first | k_asm | ktn_no "the frames below"); (case k2 => first | k_asm | ktn_no "the frame"); (case k3 => first | k_asm | ktn_no "the written part"); (case k4 => first | k_asm | ktn_no "the ledger"); (case k5 => first | k_asm | ktn_no "the top"); (case kK => first | exact rfl | assumption | ktn_no "no def"); (case kd => first | ktr_room | ktn_no "the room"); (case ku => first | ktr_units | ktn_no "the units"))); (case kb => assumption); (case ka => assumption)); intro v' news' h' tk' F' N' hr'; obtain ⟨t1', t2', n', tl', hv', hn'⟩ := hr'; subst hv'; subst hn'))) | (with_reducible ((k_here; (with_reducible show wpAny _ _ (inplaceOp _ (Value.str (tkS _) _) (Value.str (ch1 _) _)) _ _ _); k_dflt (refine' add_tk ?k1 ?_; (case k1 => omega)); intro t' tk'))) | (with_reducible ((k_here; (with_reducible show wpAny _ _ (inplaceOp _ (Value.str (Str.ofString "") _) (Value.str (ch1 _) _)) _ _ _); k_dflt (refine' add_tk0 ?_); intro t' tk'))) | (with_reducible ((k_here; (with_reducible show wpAny _ _ (compareOp _ (Value.str (ch1 _) _) (Value.str (Str.ofString "\\") _)) _ _ _); k_dflt (refine' eq_bs ?k1 ?_; (case k1 => assumption); k_whole)))) | (with_reducible ((k_here; (with_reducible show wpAny _ _ (compareOp _ (Value.str (ch1 _) _) (Value.str (Str.ofString "\"") _)) _ _ _); k_dflt (refine' eq_qu ?k1 ?_; (case k1 => assumption); k_whole)))) | (with_reducible ((k_here; (with_reducible show wpAny _ _ (compareOp _ (Value.str (ch1 _) _) (Value.str _ _)) _ _ _); k_dflt (refine' in_ws ?k1 ?_; (case k1 => assumption); k_whole)))) | ((with_reducible show wpAny _ _ (pyIter (Value.ref _)) _ _ _); with_reducible ((k_here; k_dflt (refine' again_ci ?k1 ?_; (case k1 => exact News.get (by k_asm) (by k_mem)); k_whole)))) | ((with_reducible show wpAny _ _ (call (Value.builtin "iter") _) _ _ _); with_reducible ((k_here; (with_reducible show wpAny _ _ (call (Value.builtin _) [Value.ref _, Value.str _ _]) _ _ _); k_dflt (refine' iter_ci ?F ?N ?q ?_; (case F => k_asm); (case N => k_asm); (case q => k_mem)); intro D' h' F' N' l1; (try k_lt l1)))) | ((with_reducible show wpAny _ _ (execs (_ :: _) _) _ _ _); with_reducible ((refine execs_cut ?_; intro _ _))) | ((with_reducible show wpAny _ _ (callWith _ (Value.ref _) _ _ _) _ _ _); with_reducible ((k_here; k_dflt (first | (refine' callWith_K ?k1 ?k2 ?_; (case k1 => k_asm); (case k2 => k_is); k_whole) | (refine' callWith_K0 ?k1 ?k2 ?_; (case k1 => k_in); (case k2 => k_is); k_whole))))) | ((with_reducible show wpAny _ _ (binaryOp .Mult (Value.int _ _) (Value.float _ _)) _ _ _); with_reducible ((k_here; k_dflt (refine' mulif_safe ?k1 ?_; (case k1 => omega); k_whole)))) | ((with_reducible show wpAny _ _ (binaryOp .Mult (Value.float _ _) (Value.int _ _)) _ _ _); with_reducible ((k_here; k_dflt (refine' mulfi_safe ?k1 ?_; (case k1 => omega); k_whole)))) | ((with_reducible show wpAny _ _ (binaryOp .Mod (Value.float _ _) (Value.float _ _)) _ _ _); with_reducible ((k_here; k_dflt (refine' fmod_safe ?k1 ?k2 ?_; (case k1 => with_unfolding_all rfl); (case k2 => decide +kernel); k_whole)))) | ((with_reducible show wpAny _ _ (binaryOp .Div (Value.float _ _) (Value.float _ _)) _ _ _); with_reducible ((k_here; k_dflt (refine' fdiv_safe ?k1 ?k2 ?_; (case k1 => with_unfolding_all rfl); (case k2 => decide +kernel); k_whole)))) | ((with_reducible show wpAny _ _ (binaryOp .Div (Value.int _ _) (Value.int _ _)) _ _ _); with_reducible ((k_here; k_dflt (refine' div_safe ?k1 ?k2 ?k3 ?_; (case k1 => with_unfolding_all rfl); (case k2 => omega); (case k3 => omega); k_whole)))) | ((with_reducible show wpAny _ _ (call (Value.builtin "min") _) _ _ _); with_reducible ((k_here; (with_reducible show wpAny _ _ (call (Value.builtin _) [Value.int _ _, Value.int _ _, Value.int _ _]) _ _ _); k_dflt (refine' min3_N ?k1 ?k2 ?k3 ?_; (case k1 => with_unfolding_all rfl); (case k2 => k_asm); (case k3 => k_asm); k_whole); intro h' tk' tt' F' N'; (try k_sweep)))) | ((with_reducible show wpAny _ _ (call (Value.builtin "max") _) _ _ _); with_reducible ((k_here; (with_reducible show wpAny _ _ (call (Value.builtin _) [Value.int _ _, Value.int _ _, Value.int _ _]) _ _ _); k_dflt (refine' max3_N ?k1 ?k2 ?k3 ?_; (case k1 => with_unfolding_all rfl); (case k2 => k_asm); (case k3 => k_asm); k_whole); intro h' tk' tt' F' N'; (try k_sweep)))) | walk1 | dsimp only | (leave1; walk_say "STEP leave1"; try dsimp only) | fail "no step"))
          rename Fr _ _ _ _ => F8
          rename News _ _ _ _ => N8
          dsimp only [WhileStep2]
          exact ⟨_, _, _, _, v.length, rfl, F8, N8, by simp, _, u ++ [c], v, p4 + 1 + 1, _, _, _, _, _, pins3 rfl rfl rfl, rfl, b7, hv2, rfl, drop_next hp7, by rw [b5, show nlc (ch1 92) = 0 by decide +kernel]; omega⟩
      | true =>
      have hp5 : cz.drop p' = 92 :: (c :: (sp its ++ ws :: left)) := hp'
      have hp6 := drop_next hp5
      have b8 : wsB 92 = false := by decide +kernel
      have b9 : bsB 92 = true := by decide +kernel
      have b10 : quB 92 = false := by decide +kernel
      refine tok_some hp5 e_ne I2 (by k_asm) (by k_asm) F2 (by k_asm) N2 (by k_asm) rfl (by ktr_room) (by ktr_units) mD mq ?_
      intro t1 t2 n2 tl2 h3 tk3 F3 N3
      clear F2 N2
      dsimp only
      (repeat' ((fail_if_success (with_reducible show wpAny _ _ (exec (Stmt.For _ _ _ _ _) _) _ _ _)); (fail_if_success (with_reducible show codeAny _ _ (Code.forLoop _ _ _ _ _) _ _)); first | (k_unfold; (try dsimp only)) | (k_end; wrow_close) | (with_reducible ((k_here; (with_reducible show wpAny _ _ (call (Value.ref 84) _) _ _ _); k_dflt (refine' (ConK.c (read_char_some _ _ _ _ _ _ _ _ _ _ _ _ _ _ _ _ _ _ _ _ _ _ _ _ _ _ _ ?ka ?kb)) _ _ _ _ _ _ _ _ _ _ _ _ _ _ _ _ _ _ _ ?k0 ?k1 ?k2 ?k3 ?k4 ?k5 ?kK ?kd ?ku ?_; (((case k0 => assumption); (case k1 => first | k_asm | ktn_no "the frames below"); (case k2 => first | k_asm | ktn_no "the frame"); (case k3 => first | k_asm | ktn_no "the written part"); (case k4 => first | k_asm | ktn_no "the ledger"); (case k5 => first | k_asm | ktn_no "the top"); (case kK => first | exact rfl | assumption | ktn_no "no def"); (case kd => first | ktr_room | ktn_no "the room"); (case ku => first | ktr_units | ktn_no "the units"))); (case kb => assumption); (case ka => assumption)); intro v' news' h' tk' F' N' hr'; obtain ⟨t1', t2', n', tl', hv', hn'⟩ := hr'; subst hv'; subst hn'))) | (with_reducible ((k_here; (with_reducible show wpAny _ _ (inplaceOp _ (Value.str (tkS _) _) (Value.str (ch1 _) _)) _ _ _); k_dflt (refine' add_tk ?k1 ?_; (case k1 => omega)); intro t' tk'))) | (with_reducible ((k_here; (with_reducible show wpAny _ _ (inplaceOp _ (Value.str (Str.ofString "") _) (Value.str (ch1 _) _)) _ _ _); k_dflt (refine' add_tk0 ?_); intro t' tk'))) | (with_reducible ((k_here; (with_reducible show wpAny _ _ (compareOp _ (Value.str (ch1 _) _) (Value.str (Str.ofString "\\") _)) _ _ _); k_dflt (refine' eq_bs ?k1 ?_; (case k1 => assumption); k_whole)))) | (with_reducible ((k_here; (with_reducible show wpAny _ _ (compareOp _ (Value.str (ch1 _) _) (Value.str (Str.ofString "\"") _)) _ _ _); k_dflt (refine' eq_qu ?k1 ?_; (case k1 => assumption); k_whole)))) | (with_reducible ((k_here; (with_reducible show wpAny _ _ (compareOp _ (Value.str (ch1 _) _) (Value.str _ _)) _ _ _); k_dflt (refine' in_ws ?k1 ?_; (case k1 => assumption); k_whole)))) | ((with_reducible show wpAny _ _ (pyIter (Value.ref _)) _ _ _); with_reducible ((k_here; k_dflt (refine' again_ci ?k1 ?_; (case k1 => exact News.get (by k_asm) (by k_mem)); k_whole)))) | ((with_reducible show wpAny _ _ (call (Value.builtin "iter") _) _ _ _); with_reducible ((k_here; (with_reducible show wpAny _ _ (call (Value.builtin _) [Value.ref _, Value.str _ _]) _ _ _); k_dflt (refine' iter_ci ?F ?N ?q ?_; (case F => k_asm); (case N => k_asm); (case q => k_mem)); intro D' h' F' N' l1; (try k_lt l1)))) | ((with_reducible show wpAny _ _ (execs (_ :: _) _) _ _ _); with_reducible ((refine execs_cut ?_; intro _ _))) | ((with_reducible show wpAny _ _ (callWith _ (Value.ref _) _ _ _) _ _ _); with_reducible ((k_here; k_dflt (first | (refine' callWith_K ?k1 ?k2 ?_; (case k1 => k_asm); (case k2 => k_is); k_whole) | (refine' callWith_K0 ?k1 ?k2 ?_; (case k1 => k_in); (case k2 => k_is); k_whole))))) | ((with_reducible show wpAny _ _ (binaryOp .Mult (Value.int _ _) (Value.float _ _)) _ _ _); with_reducible ((k_here; k_dflt (refine' mulif_safe ?k1 ?_; (case k1 => omega); k_whole)))) | ((with_reducible show wpAny _ _ (binaryOp .Mult (Value.float _ _) (Value.int _ _)) _ _ _); with_reducible ((k_here; k_dflt (refine' mulfi_safe ?k1 ?_; (case k1 => omega); k_whole)))) | ((with_reducible show wpAny _ _ (binaryOp .Mod (Value.float _ _) (Value.float _ _)) _ _ _); with_reducible ((k_here; k_dflt (refine' fmod_safe ?k1 ?k2 ?_; (case k1 => with_unfolding_all rfl); (case k2 => decide +kernel); k_whole)))) | ((with_reducible show wpAny _ _ (binaryOp .Div (Value.float _ _) (Value.float _ _)) _ _ _); with_reducible ((k_here; k_dflt (refine' fdiv_safe ?k1 ?k2 ?_; (case k1 => with_unfolding_all rfl); (case k2 => decide +kernel); k_whole)))) | ((with_reducible show wpAny _ _ (binaryOp .Div (Value.int _ _) (Value.int _ _)) _ _ _); with_reducible ((k_here; k_dflt (refine' div_safe ?k1 ?k2 ?k3 ?_; (case k1 => with_unfolding_all rfl); (case k2 => omega); (case k3 => omega); k_whole)))) | ((with_reducible show wpAny _ _ (call (Value.builtin "min") _) _ _ _); with_reducible ((k_here; (with_reducible show wpAny _ _ (call (Value.builtin _) [Value.int _ _, Value.int _ _, Value.int _ _]) _ _ _); k_dflt (refine' min3_N ?k1 ?k2 ?k3 ?_; (case k1 => with_unfolding_all rfl); (case k2 => k_asm); (case k3 => k_asm); k_whole); intro h' tk' tt' F' N'; (try k_sweep)))) | ((with_reducible show wpAny _ _ (call (Value.builtin "max") _) _ _ _); with_reducible ((k_here; (with_reducible show wpAny _ _ (call (Value.builtin _) [Value.int _ _, Value.int _ _, Value.int _ _]) _ _ _); k_dflt (refine' max3_N ?k1 ?k2 ?k3 ?_; (case k1 => with_unfolding_all rfl); (case k2 => k_asm); (case k3 => k_asm); k_whole); intro h' tk' tt' F' N'; (try k_sweep)))) | walk1 | dsimp only | (leave1; walk_say "STEP leave1"; try dsimp only) | fail "no step"))
      refine wpAny_For ?_
      (repeat' ((fail_if_success (with_reducible show wpAny _ _ (exec (Stmt.For _ _ _ _ _) _) _ _ _)); (fail_if_success (with_reducible show codeAny _ _ (Code.forLoop _ _ _ _ _) _ _)); first | (k_unfold; (try dsimp only)) | (k_end; wrow_close) | (with_reducible ((k_here; (with_reducible show wpAny _ _ (call (Value.ref 84) _) _ _ _); k_dflt (refine' (ConK.c (read_char_some _ _ _ _ _ _ _ _ _ _ _ _ _ _ _ _ _ _ _ _ _ _ _ _ _ _ _ ?ka ?kb)) _ _ _ _ _ _ _ _ _ _ _ _ _ _ _ _ _ _ _ ?k0 ?k1 ?k2 ?k3 ?k4 ?k5 ?kK ?kd ?ku ?_; (((case k0 => assumption); (case k1 => first | k_asm | ktn_no "the frames below"); (case k2 => first | k_asm | ktn_no "the frame"); (case k3 => first | k_asm | ktn_no "the written part"); (case k4 => first | k_asm | ktn_no "the ledger"); (case k5 => first | k_asm | ktn_no "the top"); (case kK => first | exact rfl | assumption | ktn_no "no def"); (case kd => first | ktr_room | ktn_no "the room"); (case ku => first | ktr_units | ktn_no "the units"))); (case kb => assumption); (case ka => assumption)); intro v' news' h' tk' F' N' hr'; obtain ⟨t1', t2', n', tl', hv', hn'⟩ := hr'; subst hv'; subst hn'))) | (with_reducible ((k_here; (with_reducible show wpAny _ _ (inplaceOp _ (Value.str (tkS _) _) (Value.str (ch1 _) _)) _ _ _); k_dflt (refine' add_tk ?k1 ?_; (case k1 => omega)); intro t' tk'))) | (with_reducible ((k_here; (with_reducible show wpAny _ _ (inplaceOp _ (Value.str (Str.ofString "") _) (Value.str (ch1 _) _)) _ _ _); k_dflt (refine' add_tk0 ?_); intro t' tk'))) | (with_reducible ((k_here; (with_reducible show wpAny _ _ (compareOp _ (Value.str (ch1 _) _) (Value.str (Str.ofString "\\") _)) _ _ _); k_dflt (refine' eq_bs ?k1 ?_; (case k1 => assumption); k_whole)))) | (with_reducible ((k_here; (with_reducible show wpAny _ _ (compareOp _ (Value.str (ch1 _) _) (Value.str (Str.ofString "\"") _)) _ _ _); k_dflt (refine' eq_qu ?k1 ?_; (case k1 => assumption); k_whole)))) | (with_reducible ((k_here; (with_reducible show wpAny _ _ (compareOp _ (Value.str (ch1 _) _) (Value.str _ _)) _ _ _); k_dflt (refine' in_ws ?k1 ?_; (case k1 => assumption); k_whole)))) | ((with_reducible show wpAny _ _ (pyIter (Value.ref _)) _ _ _); with_reducible ((k_here; k_dflt (refine' again_ci ?k1 ?_; (case k1 => exact News.get (by k_asm) (by k_mem)); k_whole)))) | ((with_reducible show wpAny _ _ (call (Value.builtin "iter") _) _ _ _); with_reducible ((k_here; (with_reducible show wpAny _ _ (call (Value.builtin _) [Value.ref _, Value.str _ _]) _ _ _); k_dflt (refine' iter_ci ?F ?N ?q ?_; (case F => k_asm); (case N => k_asm); (case q => k_mem)); intro D' h' F' N' l1; (try k_lt l1)))) | ((with_reducible show wpAny _ _ (execs (_ :: _) _) _ _ _); with_reducible ((refine execs_cut ?_; intro _ _))) | ((with_reducible show wpAny _ _ (callWith _ (Value.ref _) _ _ _) _ _ _); with_reducible ((k_here; k_dflt (first | (refine' callWith_K ?k1 ?k2 ?_; (case k1 => k_asm); (case k2 => k_is); k_whole) | (refine' callWith_K0 ?k1 ?k2 ?_; (case k1 => k_in); (case k2 => k_is); k_whole))))) | ((with_reducible show wpAny _ _ (binaryOp .Mult (Value.int _ _) (Value.float _ _)) _ _ _); with_reducible ((k_here; k_dflt (refine' mulif_safe ?k1 ?_; (case k1 => omega); k_whole)))) | ((with_reducible show wpAny _ _ (binaryOp .Mult (Value.float _ _) (Value.int _ _)) _ _ _); with_reducible ((k_here; k_dflt (refine' mulfi_safe ?k1 ?_; (case k1 => omega); k_whole)))) | ((with_reducible show wpAny _ _ (binaryOp .Mod (Value.float _ _) (Value.float _ _)) _ _ _); with_reducible ((k_here; k_dflt (refine' fmod_safe ?k1 ?k2 ?_; (case k1 => with_unfolding_all rfl); (case k2 => decide +kernel); k_whole)))) | ((with_reducible show wpAny _ _ (binaryOp .Div (Value.float _ _) (Value.float _ _)) _ _ _); with_reducible ((k_here; k_dflt (refine' fdiv_safe ?k1 ?k2 ?_; (case k1 => with_unfolding_all rfl); (case k2 => decide +kernel); k_whole)))) | ((with_reducible show wpAny _ _ (binaryOp .Div (Value.int _ _) (Value.int _ _)) _ _ _); with_reducible ((k_here; k_dflt (refine' div_safe ?k1 ?k2 ?k3 ?_; (case k1 => with_unfolding_all rfl); (case k2 => omega); (case k3 => omega); k_whole)))) | ((with_reducible show wpAny _ _ (call (Value.builtin "min") _) _ _ _); with_reducible ((k_here; (with_reducible show wpAny _ _ (call (Value.builtin _) [Value.int _ _, Value.int _ _, Value.int _ _]) _ _ _); k_dflt (refine' min3_N ?k1 ?k2 ?k3 ?_; (case k1 => with_unfolding_all rfl); (case k2 => k_asm); (case k3 => k_asm); k_whole); intro h' tk' tt' F' N'; (try k_sweep)))) | ((with_reducible show wpAny _ _ (call (Value.builtin "max") _) _ _ _); with_reducible ((k_here; (with_reducible show wpAny _ _ (call (Value.builtin _) [Value.int _ _, Value.int _ _, Value.int _ _]) _ _ _); k_dflt (refine' max3_N ?k1 ?k2 ?k3 ?_; (case k1 => with_unfolding_all rfl); (case k2 => k_asm); (case k3 => k_asm); k_whole); intro h' tk' tt' F' N'; (try k_sweep)))) | walk1 | dsimp only | (leave1; walk_say "STEP leave1"; try dsimp only) | fail "no step"))
      rename Fr _ _ _ _ => F5
      rename News _ _ _ _ => N5
      refine for_own (fun n1 m1 news1 => ∃ (m' : Str → Option Value) (u : List Nat) (v : List (Bool × Nat)) (p' n' : Nat) (tl' t2' t3' : Tok) (ln' : Int), m1 = (fun y => if y = Str.ofString "self" then some (.ref lx) else if y = Str.ofString "token" then some (.str (tkS u) t3') else if y = Str.ofString "fiter" then some (.ref D9) else m' y) ∧
          news1 = (dl, lexD w k1 k2 k3 k4 tl' tw ln' fs pb) :: (l, listOf #[.int (p' : Int) t2'] n') :: R2 ∧ word = u ++ v.map Prod.snd ∧ (∀ i ∈ v, Pl i.2) ∧ n1 = v.length ∧ cz.drop p' = sp v ++ ws :: left ∧ LN = ln')
        F5 N5 (n₀ := its.length) ⟨_, [c], its, p' + 1 + 1, _, _, _, _, _, pins3 rfl rfl rfl, rfl, hww, hp2, rfl, drop_next hp6, by rw [b5, show nlc (ch1 92) = 0 by decide +kernel]; omega⟩ ?_ (by passes_own) (by intro _; rfl)
      clear F5 N5
      intro n3 m3 news3 h5 tk5 F6 N6 J W9
      obtain ⟨m4, u, v, p4, n4, tl4, t4, t5, ln4, rfl, rfl, hw, hv, rfl, hp4, rfl⟩ := J
      rcases v with _ | ⟨⟨bq, c⟩, v⟩
      · refine tok_some (show cz.drop p4 = ws :: left from hp4) e_ne I2 (by k_asm) (by k_asm) F6 (by k_asm) N6 (by k_asm) rfl (by ktr_room) (by ktr_units) mD mq ?_
        intro t7 t8 n7 tl7 h7 tk7 F7 N7
        clear F6 N6
        dsimp only
        (repeat' ((fail_if_success (with_reducible show wpAny _ _ (exec (Stmt.For _ _ _ _ _) _) _ _ _)); (fail_if_success (with_reducible show codeAny _ _ (Code.forLoop _ _ _ _ _) _ _)); first | (k_unfold; (try dsimp only)) | (k_end; wrow_close) | (with_reducible ((k_here; (with_reducible show wpAny _ _ (call (Value.ref 84) _) _ _ _); k_dflt (refine' (ConK.c (read_char_some _ _ _ _ _ _ _ _ _ _ _ _ _ _ _ _ _ _ _ _ _ _ _ _ _ _ _ ?ka ?kb)) _ _ _ _ _ _ _ _ _ _ _ _ _ _ _ _ _ _ _ ?k0 ?k1 ?k2 ?k3 ?k4 ?k5 ?kK ?kd ?ku ?_; (((case k0 => assumption); (case k1 => first | k_asm | ktn_no "the frames below"); (case k2 => first | k_asm | ktn_no "the frame"); (case k3 => first | k_asm | ktn_no "the written part"); (case k4 => first | k_asm | ktn_no "the ledger"); (case k5 => first | k_asm | ktn_no "the top"); (case kK => first | exact rfl | assumption | ktn_no "no def"); (case kd => first | ktr_room | ktn_no "the room"); (case ku => first | ktr_units | ktn_no "the units"))); (case kb => assumption); (case ka => assumption)); intro v' news' h' tk' F' N' hr'; obtain ⟨t1', t2', n', tl', hv', hn'⟩ := hr'; subst hv'; subst hn'))) | (with_reducible ((k_here; (with_reducible show wpAny _ _ (inplaceOp _ (Value.str (tkS _) _) (Value.str (ch1 _) _)) _ _ _); k_dflt (refine' add_tk ?k1 ?_; (case k1 => omega)); intro t' tk'))) | (with_reducible ((k_here; (with_reducible show wpAny _ _ (inplaceOp _ (Value.str (Str.ofString "") _) (Value.str (ch1 _) _)) _ _ _); k_dflt (refine' add_tk0 ?_); intro t' tk'))) | (with_reducible ((k_here; (with_reducible show wpAny _ _ (compareOp _ (Value.str (ch1 _) _) (Value.str (Str.ofString "\\") _)) _ _ _); k_dflt (refine' eq_bs ?k1 ?_; (case k1 => assumption); k_whole)))) | (with_reducible ((k_here; (with_reducible show wpAny _ _ (compareOp _ (Value.str (ch1 _) _) (Value.str (Str.ofString "\"") _)) _ _ _); k_dflt (refine' eq_qu ?k1 ?_; (case k1 => assumption); k_whole)))) | (with_reducible ((k_here; (with_reducible show wpAny _ _ (compareOp _ (Value.str (ch1 _) _) (Value.str _ _)) _ _ _); k_dflt (refine' in_ws ?k1 ?_; (case k1 => assumption); k_whole)))) | ((with_reducible show wpAny _ _ (pyIter (Value.ref _)) _ _ _); with_reducible ((k_here; k_dflt (refine' again_ci ?k1 ?_; (case k1 => exact News.get (by k_asm) (by k_mem)); k_whole)))) | ((with_reducible show wpAny _ _ (call (Value.builtin "iter") _) _ _ _); with_reducible ((k_here; (with_reducible show wpAny _ _ (call (Value.builtin _) [Value.ref _, Value.str _ _]) _ _ _); k_dflt (refine' iter_ci ?F ?N ?q ?_; (case F => k_asm); (case N => k_asm); (case q => k_mem)); intro D' h' F' N' l1; (try k_lt l1)))) | ((with_reducible show wpAny _ _ (execs (_ :: _) _) _ _ _); with_reducible ((refine execs_cut ?_; intro _ _))) | ((with_reducible show wpAny _ _ (callWith _ (Value.ref _) _ _ _) _ _ _); with_reducible ((k_here; k_dflt (first | (refine' callWith_K ?k1 ?k2 ?_; (case k1 => k_asm); (case k2 => k_is); k_whole) | (refine' callWith_K0 ?k1 ?k2 ?_; (case k1 => k_in); (case k2 => k_is); k_whole))))) | ((with_reducible show wpAny _ _ (binaryOp .Mult (Value.int _ _) (Value.float _ _)) _ _ _); with_reducible ((k_here; k_dflt (refine' mulif_safe ?k1 ?_; (case k1 => omega); k_whole)))) | ((with_reducible show wpAny _ _ (binaryOp .Mult (Value.float _ _) (Value.int _ _)) _ _ _); with_reducible ((k_here; k_dflt (refine' mulfi_safe ?k1 ?_; (case k1 => omega); k_whole)))) | ((with_reducible show wpAny _ _ (binaryOp .Mod (Value.float _ _) (Value.float _ _)) _ _ _); with_reducible ((k_here; k_dflt (refine' fmod_safe ?k1 ?k2 ?_; (case k1 => with_unfolding_all rfl); (case k2 => decide +kernel); k_whole)))) | ((with_reducible show wpAny _ _ (binaryOp .Div (Value.float _ _) (Value.float _ _)) _ _ _); with_reducible ((k_here; k_dflt (refine' fdiv_safe ?k1 ?k2 ?_; (case k1 => with_unfolding_all rfl); (case k2 => decide +kernel); k_whole)))) | ((with_reducible show wpAny _ _ (binaryOp .Div (Value.int _ _) (Value.int _ _)) _ _ _); with_reducible ((k_here; k_dflt (refine' div_safe ?k1 ?k2 ?k3 ?_; (case k1 => with_unfolding_all rfl); (case k2 => omega); (case k3 => omega); k_whole)))) | ((with_reducible show wpAny _ _ (call (Value.builtin "min") _) _ _ _); with_reducible ((k_here; (with_reducible show wpAny _ _ (call (Value.builtin _) [Value.int _ _, Value.int _ _, Value.int _ _]) _ _ _); k_dflt (refine' min3_N ?k1 ?k2 ?k3 ?_; (case k1 => with_unfolding_all rfl); (case k2 => k_asm); (case k3 => k_asm); k_whole); intro h' tk' tt' F' N'; (try k_sweep)))) | ((with_reducible show wpAny _ _ (call (Value.builtin "max") _) _ _ _); with_reducible ((k_here; (with_reducible show wpAny _ _ (call (Value.builtin _) [Value.int _ _, Value.int _ _, Value.int _ _]) _ _ _); k_dflt (refine' max3_N ?k1 ?k2 ?k3 ?_; (case k1 => with_unfolding_all rfl); (case k2 => k_asm); (case k3 => k_asm); k_whole); intro h' tk' tt' F' N'; (try k_sweep)))) | walk1 | dsimp only | (leave1; walk_say "STEP leave1"; try dsimp only) | fail "no step"))
        dsimp only [WhileStep2]
        (repeat' ((fail_if_success (with_reducible show wpAny _ _ (exec (Stmt.For _ _ _ _ _) _) _ _ _)); (fail_if_success (with_reducible show codeAny _ _ (Code.forLoop _ _ _ _ _) _ _)); first | (k_unfold; (try dsimp only)) | (k_end; wrow_close) | (with_reducible ((k_here; (with_reducible show wpAny _ _ (call (Value.ref 84) _) _ _ _); k_dflt (refine' (ConK.c (read_char_some _ _ _ _ _ _ _ _ _ _ _ _ _ _ _ _ _ _ _ _ _ _ _ _ _ _ _ ?ka ?kb)) _ _ _ _ _ _ _ _ _ _ _ _ _ _ _ _ _ _ _ ?k0 ?k1 ?k2 ?k3 ?k4 ?k5 ?kK ?kd ?ku ?_; (((case k0 => assumption); (case k1 => first | k_asm | ktn_no "the frames below"); (case k2 => first | k_asm | ktn_no "the frame"); (case k3 => first | k_asm | ktn_no "the written part"); (case k4 => first | k_asm | ktn_no "the ledger"); (case k5 => first | k_asm | ktn_no "the top"); (case kK => first | exact rfl | assumption | ktn_no "no def"); (case kd => first | ktr_room | ktn_no "the room"); (case ku => first | ktr_units | ktn_no "the units"))); (case kb => assumption); (case ka => assumption)); intro v' news' h' tk' F' N' hr'; obtain ⟨t1', t2', n', tl', hv', hn'⟩ := hr'; subst hv'; subst hn'))) | (with_reducible ((k_here; (with_reducible show wpAny _ _ (inplaceOp _ (Value.str (tkS _) _) (Value.str (ch1 _) _)) _ _ _); k_dflt (refine' add_tk ?k1 ?_; (case k1 => omega)); intro t' tk'))) | (with_reducible ((k_here; (with_reducible show wpAny _ _ (inplaceOp _ (Value.str (Str.ofString "") _) (Value.str (ch1 _) _)) _ _ _); k_dflt (refine' add_tk0 ?_); intro t' tk'))) | (with_reducible ((k_here; (with_reducible show wpAny _ _ (compareOp _ (Value.str (ch1 _) _) (Value.str (Str.ofString "\\") _)) _ _ _); k_dflt (refine' eq_bs ?k1 ?_; (case k1 => assumption); k_whole)))) | (with_reducible ((k_here; (with_reducible show wpAny _ _ (compareOp _ (Value.str (ch1 _) _) (Value.str (Str.ofString "\"") _)) _ _ _); k_dflt (refine' eq_qu ?k1 ?_; (case k1 => assumption); k_whole)))) | (with_reducible ((k_here; (with_reducible show wpAny _ _ (compareOp _ (Value.str (ch1 _) _) (Value.str _ _)) _ _ _); k_dflt (refine' in_ws ?k1 ?_; (case k1 => assumption); k_whole)))) | ((with_reducible show wpAny _ _ (pyIter (Value.ref _)) _ _ _); with_reducible ((k_here; k_dflt (refine' again_ci ?k1 ?_; (case k1 => exact News.get (by k_asm) (by k_mem)); k_whole)))) | ((with_reducible show wpAny _ _ (call (Value.builtin "iter") _) _ _ _); with_reducible ((k_here; (with_reducible show wpAny _ _ (call (Value.builtin _) [Value.ref _, Value.str _ _]) _ _ _); k_dflt (refine' iter_ci ?F ?N ?q ?_; (case F => k_asm); (case N => k_asm); (case q => k_mem)); intro D' h' F' N' l1; (try k_lt l1)))) | ((with_reducible show wpAny _ _ (execs (_ :: _) _) _ _ _); with_reducible ((refine execs_cut ?_; intro _ _))) | ((with_reducible show wpAny _ _ (callWith _ (Value.ref _) _ _ _) _ _ _); with_reducible ((k_here; k_dflt (first | (refine' callWith_K ?k1 ?k2 ?_; (case k1 => k_asm); (case k2 => k_is); k_whole) | (refine' callWith_K0 ?k1 ?k2 ?_; (case k1 => k_in); (case k2 => k_is); k_whole))))) | ((with_reducible show wpAny _ _ (binaryOp .Mult (Value.int _ _) (Value.float _ _)) _ _ _); with_reducible ((k_here; k_dflt (refine' mulif_safe ?k1 ?_; (case k1 => omega); k_whole)))) | ((with_reducible show wpAny _ _ (binaryOp .Mult (Value.float _ _) (Value.int _ _)) _ _ _); with_reducible ((k_here; k_dflt (refine' mulfi_safe ?k1 ?_; (case k1 => omega); k_whole)))) | ((with_reducible show wpAny _ _ (binaryOp .Mod (Value.float _ _) (Value.float _ _)) _ _ _); with_reducible ((k_here; k_dflt (refine' fmod_safe ?k1 ?k2 ?_; (case k1 => with_unfolding_all rfl); (case k2 => decide +kernel); k_whole)))) | ((with_reducible show wpAny _ _ (binaryOp .Div (Value.float _ _) (Value.float _ _)) _ _ _); with_reducible ((k_here; k_dflt (refine' fdiv_safe ?k1 ?k2 ?_; (case k1 => with_unfolding_all rfl); (case k2 => decide +kernel); k_whole)))) | ((with_reducible show wpAny _ _ (binaryOp .Div (Value.int _ _) (Value.int _ _)) _ _ _); with_reducible ((k_here; k_dflt (refine' div_safe ?k1 ?k2 ?k3 ?_; (case k1 => with_unfolding_all rfl); (case k2 => omega); (case k3 => omega); k_whole)))) | ((with_reducible show wpAny _ _ (call (Value.builtin "min") _) _ _ _); with_reducible ((k_here; (with_reducible show wpAny _ _ (call (Value.builtin _) [Value.int _ _, Value.int _ _, Value.int _ _]) _ _ _); k_dflt (refine' min3_N ?k1 ?k2 ?k3 ?_; (case k1 => with_unfolding_all rfl); (case k2 => k_asm); (case k3 => k_asm); k_whole); intro h' tk' tt' F' N'; (try k_sweep)))) | ((with_reducible show wpAny _ _ (call (Value.builtin "max") _) _ _ _); with_reducible ((k_here; (with_reducible show wpAny _ _ (call (Value.builtin _) [Value.int _ _, Value.int _ _, Value.int _ _]) _ _ _); k_dflt (refine' max3_N ?k1 ?k2 ?k3 ?_; (case k1 => with_unfolding_all rfl); (case k2 => k_asm); (case k3 => k_asm); k_whole); intro h' tk' tt' F' N'; (try k_sweep)))) | walk1 | dsimp only | (leave1; walk_say "STEP leave1"; try dsimp only) | fail "no step"))
        (try dsimp only [WhileStep2])
        (repeat' ((fail_if_success (with_reducible show wpAny _ _ (exec (Stmt.For _ _ _ _ _) _) _ _ _)); (fail_if_success (with_reducible show codeAny _ _ (Code.forLoop _ _ _ _ _) _ _)); first | (k_unfold; (try dsimp only)) | (k_end; wrow_close) | (with_reducible ((k_here; (with_reducible show wpAny _ _ (call (Value.ref 84) _) _ _ _); k_dflt (refine' (ConK.c (read_char_some _ _ _ _ _ _ _ _ _ _ _ _ _ _ _ _ _ _ _ _ _ _ _ _ _ _ _ ?ka ?kb)) _ _ _ _ _ _ _ _ _ _ _ _ _ _ _ _ _ _ _ ?k0 ?k1 ?k2 ?k3 ?k4 ?k5 ?kK ?kd ?ku ?_; (((case k0 => assumption); (case k1 => first | k_asm | ktn_no "the frames below"); (case k2 => first | k_asm | ktn_no "the frame"); (case k3 => first | k_asm | ktn_no "the written part"); (case k4 => first | k_asm | ktn_no "the ledger"); (case k5 => first | k_asm | ktn_no "the top"); (case kK => first | exact rfl | assumption | ktn_no "no def"); (case kd => first | ktr_room | ktn_no "the room"); (case ku => first | ktr_units | ktn_no "the units"))); (case kb => assumption); (case ka => assumption)); intro v' news' h' tk' F' N' hr'; obtain ⟨t1', t2', n', tl', hv', hn'⟩ := hr'; subst hv'; subst hn'))) | (with_reducible ((k_here; (with_reducible show wpAny _ _ (inplaceOp _ (Value.str (tkS _) _) (Value.str (ch1 _) _)) _ _ _); k_dflt (refine' add_tk ?k1 ?_; (case k1 => omega)); intro t' tk'))) | (with_reducible ((k_here; (with_reducible show wpAny _ _ (inplaceOp _ (Value.str (Str.ofString "") _) (Value.str (ch1 _) _)) _ _ _); k_dflt (refine' add_tk0 ?_); intro t' tk'))) | (with_reducible ((k_here; (with_reducible show wpAny _ _ (compareOp _ (Value.str (ch1 _) _) (Value.str (Str.ofString "\\") _)) _ _ _); k_dflt (refine' eq_bs ?k1 ?_; (case k1 => assumption); k_whole)))) | (with_reducible ((k_here; (with_reducible show wpAny _ _ (compareOp _ (Value.str (ch1 _) _) (Value.str (Str.ofString "\"") _)) _ _ _); k_dflt (refine' eq_qu ?k1 ?_; (case k1 => assumption); k_whole)))) | (with_reducible ((k_here; (with_reducible show wpAny _ _ (compareOp _ (Value.str (ch1 _) _) (Value.str _ _)) _ _ _); k_dflt (refine' in_ws ?k1 ?_; (case k1 => assumption); k_whole)))) | ((with_reducible show wpAny _ _ (pyIter (Value.ref _)) _ _ _); with_reducible ((k_here; k_dflt (refine' again_ci ?k1 ?_; (case k1 => exact News.get (by k_asm) (by k_mem)); k_whole)))) | ((with_reducible show wpAny _ _ (call (Value.builtin "iter") _) _ _ _); with_reducible ((k_here; (with_reducible show wpAny _ _ (call (Value.builtin _) [Value.ref _, Value.str _ _]) _ _ _); k_dflt (refine' iter_ci ?F ?N ?q ?_; (case F => k_asm); (case N => k_asm); (case q => k_mem)); intro D' h' F' N' l1; (try k_lt l1)))) | ((with_reducible show wpAny _ _ (execs (_ :: _) _) _ _ _); with_reducible ((refine execs_cut ?_; intro _ _))) | ((with_reducible show wpAny _ _ (callWith _ (Value.ref _) _ _ _) _ _ _); with_reducible ((k_here; k_dflt (first | (refine' callWith_K ?k1 ?k2 ?_; (case k1 => k_asm); (case k2 => k_is); k_whole) | (refine' callWith_K0 ?k1 ?k2 ?_; (case k1 => k_in); (case k2 => k_is); k_whole))))) | ((with_reducible show wpAny _ _ (binaryOp .Mult (Value.int _ _) (Value.float _ _)) _ _ _); with_reducible ((k_here; k_dflt (refine' mulif_safe ?k1 ?_; (case k1 => omega); k_whole)))) | ((with_reducible show wpAny _ _ (binaryOp .Mult (Value.float _ _) (Value.int _ _)) _ _ _); with_reducible ((k_here; k_dflt (refine' mulfi_safe ?k1 ?_; (case k1 => omega); k_whole)))) | ((with_reducible show wpAny _ _ (binaryOp .Mod (Value.float _ _) (Value.float _ _)) _ _ _); with_reducible ((k_here; k_dflt (refine' fmod_safe ?k1 ?k2 ?_; (case k1 => with_unfolding_all rfl); (case k2 => decide +kernel); k_whole)))) | ((with_reducible show wpAny _ _ (binaryOp .Div (Value.float _ _) (Value.float _ _)) _ _ _); with_reducible ((k_here; k_dflt (refine' fdiv_safe ?k1 ?k2 ?_; (case k1 => with_unfolding_all rfl); (case k2 => decide +kernel); k_whole)))) | ((with_reducible show wpAny _ _ (binaryOp .Div (Value.int _ _) (Value.int _ _)) _ _ _); with_reducible ((k_here; k_dflt (refine' div_safe ?k1 ?k2 ?k3 ?_; (case k1 => with_unfolding_all rfl); (case k2 => omega); (case k3 => omega); k_whole)))) | ((with_reducible show wpAny _ _ (call (Value.builtin "min") _) _ _ _); with_reducible ((k_here; (with_reducible show wpAny _ _ (call (Value.builtin _) [Value.int _ _, Value.int _ _, Value.int _ _]) _ _ _); k_dflt (refine' min3_N ?k1 ?k2 ?k3 ?_; (case k1 => with_unfolding_all rfl); (case k2 => k_asm); (case k3 => k_asm); k_whole); intro h' tk' tt' F' N'; (try k_sweep)))) | ((with_reducible show wpAny _ _ (call (Value.builtin "max") _) _ _ _); with_reducible ((k_here; (with_reducible show wpAny _ _ (call (Value.builtin _) [Value.int _ _, Value.int _ _, Value.int _ _]) _ _ _); k_dflt (refine' max3_N ?k1 ?k2 ?k3 ?_; (case k1 => with_unfolding_all rfl); (case k2 => k_asm); (case k3 => k_asm); k_whole); intro h' tk' tt' F' N'; (try k_sweep)))) | walk1 | dsimp only | (leave1; walk_say "STEP leave1"; try dsimp only) | fail "no step"))
        refine hret _ _ _ _ (by k_asm) (back3 (by k_asm) mpb hrR) ⟨_, _, _, _, p4 + 1, drop_next (show cz.drop p4 = ws :: left from hp4), by rw [hw, List.map_nil, List.append_nil]; rfl, by rw [bn, Int.add_zero]⟩
      · have hc9 : Pl c := hv (bq, c) (List.Mem.head _)
        have hv2 : ∀ i ∈ v, Pl i.2 := fun i hi => hv i (.tail _ hi)
        have b3 := ws_pl hc9
        have b4 := bs_pl hc9
        have b5 := nl_pl hc9
        have b6 : u.length ≤ 10 := by rw [hw] at hw9; simp at hw9; omega
        have b7 : word = (u ++ [c]) ++ v.map Prod.snd := by rw [hw]; simp
        cases bq with
        | false =>
          have hp6 : cz.drop p4 = c :: (sp v ++ ws :: left) := hp4
          refine tok_some hp6 e_ne I2 (by k_asm) (by k_asm) F6 (by k_asm) N6 (by k_asm) rfl (by ktr_room) (by ktr_units) mD mq ?_
          intro t7 t8 n7 tl7 h7 tk7 F7 N7
          clear F6 N6
          dsimp only
          (repeat' ((fail_if_success (with_reducible show wpAny _ _ (exec (Stmt.For _ _ _ _ _) _) _ _ _)); (fail_if_success (with_reducible show codeAny _ _ (Code.forLoop _ _ _ _ _) _ _)); first | (k_unfold; (try dsimp only)) | (k_end; wrow_close) | (with_reducible ((k_here; (with_reducible show wpAny _ _ (call (Value.ref 84) _) _ _ _); k_dflt (refine' (ConK.c (read_char_some _ _ _ _ _ _ _ _ _ _ _ _ _ _ _ _ _ _ _ _ _ _ _ _ _ _ _ ?ka ?kb)) _ _ _ _ _ _ _ _ _ _ _ _ _ _ _ _ _ _ _ ?k0 ?k1 ?k2 ?k3 ?k4 ?k5 ?kK ?kd ?ku ?_; (((case k0 => assumption); (case k1 => first | k_asm | ktn_no "the frames below"); (case k2 => first | k_asm | ktn_no "the frame"); (case k3 => first | k_asm | ktn_no "the written part"); (case k4 => first | k_asm | ktn_no "the ledger"); (case k5 => first | k_asm | ktn_no "the top"); (case kK => first | exact rfl | assumption | ktn_no "no def"); (case kd => first | ktr_room | ktn_no "the room"); (case ku => first | ktr_units | ktn_no "the units"))); (case kb => assumption); (case ka => assumption)); intro v' news' h' tk' F' N' hr'; obtain ⟨t1', t2', n', tl', hv', hn'⟩ := hr'; subst hv'; subst hn'))) | (with_reducible ((k_here; (with_reducible show wpAny _ _ (inplaceOp _ (Value.str (tkS _) _) (Value.str (ch1 _) _)) _ _ _); k_dflt (refine' add_tk ?k1 ?_; (case k1 => omega)); intro t' tk'))) | (with_reducible ((k_here; (with_reducible show wpAny _ _ (inplaceOp _ (Value.str (Str.ofString "") _) (Value.str (ch1 _) _)) _ _ _); k_dflt (refine' add_tk0 ?_); intro t' tk'))) | (with_reducible ((k_here; (with_reducible show wpAny _ _ (compareOp _ (Value.str (ch1 _) _) (Value.str (Str.ofString "\\") _)) _ _ _); k_dflt (refine' eq_bs ?k1 ?_; (case k1 => assumption); k_whole)))) | (with_reducible ((k_here; (with_reducible show wpAny _ _ (compareOp _ (Value.str (ch1 _) _) (Value.str (Str.ofString "\"") _)) _ _ _); k_dflt (refine' eq_qu ?k1 ?_; (case k1 => assumption); k_whole)))) | (with_reducible ((k_here; (with_reducible show wpAny _ _ (compareOp _ (Value.str (ch1 _) _) (Value.str _ _)) _ _ _); k_dflt (refine' in_ws ?k1 ?_; (case k1 => assumption); k_whole)))) | ((with_reducible show wpAny _ _ (pyIter (Value.ref _)) _ _ _); with_reducible ((k_here; k_dflt (refine' again_ci ?k1 ?_; (case k1 => exact News.get (by k_asm) (by k_mem)); k_whole)))) | ((with_reducible show wpAny _ _ (call (Value.builtin "iter") _) _ _ _); with_reducible ((k_here; (with_reducible show wpAny _ _ (call (Value.builtin _) [Value.ref _, Value.str _ _]) _ _ _); k_dflt (refine' iter_ci ?F ?N ?q ?_; (case F => k_asm); (case N => k_asm); (case q => k_mem)); intro D' h' F' N' l1; (try k_lt l1)))) | ((with_reducible show wpAny _ _ (execs (_ :: _) _) _ _ _); with_reducible ((refine execs_cut ?_; intro _ _))) | ((with_reducible show wpAny _ _ (callWith _ (Value.ref _) _ _ _) _ _ _); with_reducible ((k_here; k_dflt (first | (refine' callWith_K ?k1 ?k2 ?_; (case k1 => k_asm); (case k2 => k_is); k_whole) | (refine' callWith_K0 ?k1 ?k2 ?_; (case k1 => k_in); (case k2 => k_is); k_whole))))) | ((with_reducible show wpAny _ _ (binaryOp .Mult (Value.int _ _) (Value.float _ _)) _ _ _); with_reducible ((k_here; k_dflt (refine' mulif_safe ?k1 ?_; (case k1 => omega); k_whole)))) | ((with_reducible show wpAny _ _ (binaryOp .Mult (Value.float _ _) (Value.int _ _)) _ _ _); with_reducible ((k_here; k_dflt (refine' mulfi_safe ?k1 ?_; (case k1 => omega); k_whole)))) | ((with_reducible show wpAny _ _ (binaryOp .Mod (Value.float _ _) (Value.float _ _)) _ _ _); with_reducible ((k_here; k_dflt (refine' fmod_safe ?k1 ?k2 ?_; (case k1 => with_unfolding_all rfl); (case k2 => decide +kernel); k_whole)))) | ((with_reducible show wpAny _ _ (binaryOp .Div (Value.float _ _) (Value.float _ _)) _ _ _); with_reducible ((k_here; k_dflt (refine' fdiv_safe ?k1 ?k2 ?_; (case k1 => with_unfolding_all rfl); (case k2 => decide +kernel); k_whole)))) | ((with_reducible show wpAny _ _ (binaryOp .Div (Value.int _ _) (Value.int _ _)) _ _ _); with_reducible ((k_here; k_dflt (refine' div_safe ?k1 ?k2 ?k3 ?_; (case k1 => with_unfolding_all rfl); (case k2 => omega); (case k3 => omega); k_whole)))) | ((with_reducible show wpAny _ _ (call (Value.builtin "min") _) _ _ _); with_reducible ((k_here; (with_reducible show wpAny _ _ (call (Value.builtin _) [Value.int _ _, Value.int _ _, Value.int _ _]) _ _ _); k_dflt (refine' min3_N ?k1 ?k2 ?k3 ?_; (case k1 => with_unfolding_all rfl); (case k2 => k_asm); (case k3 => k_asm); k_whole); intro h' tk' tt' F' N'; (try k_sweep)))) | ((with_reducible show wpAny _ _ (call (Value.builtin "max") _) _ _ _); with_reducible ((k_here; (with_reducible show wpAny _ _ (call (Value.builtin _) [Value.int _ _, Value.int _ _, Value.int _ _]) _ _ _); k_dflt (refine' max3_N ?k1 ?k2 ?k3 ?_; (case k1 => with_unfolding_all rfl); (case k2 => k_asm); (case k3 => k_asm); k_whole); intro h' tk' tt' F' N'; (try k_sweep)))) | walk1 | dsimp only | (leave1; walk_say "STEP leave1"; try dsimp only) | fail "no step"))
          rename Fr _ _ _ _ => F8
          rename News _ _ _ _ => N8
          dsimp only [WhileStep2]
          exact ⟨_, _, _, _, v.length, rfl, F8, N8, by simp, _, u ++ [c], v, p4 + 1, _, _, _, _, _, pins3 rfl rfl rfl, rfl, b7, hv2, rfl, drop_next hp6, by rw [b5]; omega⟩
        | true =>
          have hp6 : cz.drop p4 = 92 :: (c :: (sp v ++ ws :: left)) := hp4
          have hp7 := drop_next hp6
          have b8 : wsB 92 = false := by decide +kernel
          have b9 : bsB 92 = true := by decide +kernel
          refine tok_some hp6 e_ne I2 (by k_asm) (by k_asm) F6 (by k_asm) N6 (by k_asm) rfl (by ktr_room) (by ktr_units) mD mq ?_
          intro t7 t8 n7 tl7 h7 tk7 F7 N7
          clear F6 N6
          dsimp only
          (repeat' ((fail_if_success (with_reducible show wpAny _ _ (exec (Stmt.For _ _ _ _ _) _) _ _ _)); (fail_if_success (with_reducible show codeAny _ _ (Code.forLoop _ _ _ _ _) _ _)); first | (k_unfold; (try dsimp only)) | (k_end; wrow_close) | (with_reducible ((k_here; (with_reducible show wpAny _ _ (call (Value.ref 84) _) _ _ _); k_dflt (refine' (ConK.c (read_char_some _ _ _ _ _ _ _ _ _ _ _ _ _ _ _ _ _ _ _ _ _ _ _ _ _ _ _ ?ka ?kb)) _ _ _ _ _ _ _ _ _ _ _ _ _ _ _ _ _ _ _ ?k0 ?k1 ?k2 ?k3 ?k4 ?k5 ?kK ?kd ?ku ?_; (((case k0 => assumption); (case k1 => first | k_asm | ktn_no "the frames below"); (case k2 => first | k_asm | ktn_no "the frame"); (case k3 => first | k_asm | ktn_no "the written part"); (case k4 => first | k_asm | ktn_no "the ledger"); (case k5 => first | k_asm | ktn_no "the top"); (case kK => first | exact rfl | assumption | ktn_no "no def"); (case kd => first | ktr_room | ktn_no "the room"); (case ku => first | ktr_units | ktn_no "the units"))); (case kb => assumption); (case ka => assumption)); intro v' news' h' tk' F' N' hr'; obtain ⟨t1', t2', n', tl', hv', hn'⟩ := hr'; subst hv'; subst hn'))) | (with_reducible ((k_here; (with_reducible show wpAny _ _ (inplaceOp _ (Value.str (tkS _) _) (Value.str (ch1 _) _)) _ _ _); k_dflt (refine' add_tk ?k1 ?_; (case k1 => omega)); intro t' tk'))) | (with_reducible ((k_here; (with_reducible show wpAny _ _ (inplaceOp _ (Value.str (Str.ofString "") _) (Value.str (ch1 _) _)) _ _ _); k_dflt (refine' add_tk0 ?_); intro t' tk'))) | (with_reducible ((k_here; (with_reducible show wpAny _ _ (compareOp _ (Value.str (ch1 _) _) (Value.str (Str.ofString "\\") _)) _ _ _); k_dflt (refine' eq_bs ?k1 ?_; (case k1 => assumption); k_whole)))) | (with_reducible ((k_here; (with_reducible show wpAny _ _ (compareOp _ (Value.str (ch1 _) _) (Value.str (Str.ofString "\"") _)) _ _ _); k_dflt (refine' eq_qu ?k1 ?_; (case k1 => assumption); k_whole)))) | (with_reducible ((k_here; (with_reducible show wpAny _ _ (compareOp _ (Value.str (ch1 _) _) (Value.str _ _)) _ _ _); k_dflt (refine' in_ws ?k1 ?_; (case k1 => assumption); k_whole)))) | ((with_reducible show wpAny _ _ (pyIter (Value.ref _)) _ _ _); with_reducible ((k_here; k_dflt (refine' again_ci ?k1 ?_; (case k1 => exact News.get (by k_asm) (by k_mem)); k_whole)))) | ((with_reducible show wpAny _ _ (call (Value.builtin "iter") _) _ _ _); with_reducible ((k_here; (with_reducible show wpAny _ _ (call (Value.builtin _) [Value.ref _, Value.str _ _]) _ _ _); k_dflt (refine' iter_ci ?F ?N ?q ?_; (case F => k_asm); (case N => k_asm); (case q => k_mem)); intro D' h' F' N' l1; (try k_lt l1)))) | ((with_reducible show wpAny _ _ (execs (_ :: _) _) _ _ _); with_reducible ((refine execs_cut ?_; intro _ _))) | ((with_reducible show wpAny _ _ (callWith _ (Value.ref _) _ _ _) _ _ _); with_reducible ((k_here; k_dflt (first | (refine' callWith_K ?k1 ?k2 ?_; (case k1 => k_asm); (case k2 => k_is); k_whole) | (refine' callWith_K0 ?k1 ?k2 ?_; (case k1 => k_in); (case k2 => k_is); k_whole))))) | ((with_reducible show wpAny _ _ (binaryOp .Mult (Value.int _ _) (Value.float _ _)) _ _ _); with_reducible ((k_here; k_dflt (refine' mulif_safe ?k1 ?_; (case k1 => omega); k_whole)))) | ((with_reducible show wpAny _ _ (binaryOp .Mult (Value.float _ _) (Value.int _ _)) _ _ _); with_reducible ((k_here; k_dflt (refine' mulfi_safe ?k1 ?_; (case k1 => omega); k_whole)))) | ((with_reducible show wpAny _ _ (binaryOp .Mod (Value.float _ _) (Value.float _ _)) _ _ _); with_reducible ((k_here; k_dflt (refine' fmod_safe ?k1 ?k2 ?_; (case k1 => with_unfolding_all rfl); (case k2 => decide +kernel); k_whole)))) | ((with_reducible show wpAny _ _ (binaryOp .Div (Value.float _ _) (Value.float _ _)) _ _ _); with_reducible ((k_here; k_dflt (refine' fdiv_safe ?k1 ?k2 ?_; (case k1 => with_unfolding_all rfl); (case k2 => decide +kernel); k_whole)))) | ((with_reducible show wpAny _ _ (binaryOp .Div (Value.int _ _) (Value.int _ _)) _ _ _); with_reducible ((k_here; k_dflt (refine' div_safe ?k1 ?k2 ?k3 ?_; (case k1 => with_unfolding_all rfl); (case k2 => omega); (case k3 => omega); k_whole)))) | ((with_reducible show wpAny _ _ (call (Value.builtin "min") _) _ _ _); with_reducible ((k_here; (with_reducible show wpAny _ _ (call (Value.builtin _) [Value.int _ _, Value.int _ _, Value.int _ _]) _ _ _); k_dflt (refine' min3_N ?k1 ?k2 ?k3 ?_; (case k1 => with_unfolding_all rfl); (case k2 => k_asm); (case k3 => k_asm); k_whole); intro h' tk' tt' F' N'; (try k_sweep)))) | ((with_reducible show wpAny _ _ (call (Value.builtin "max") _) _ _ _); with_reducible ((k_here; (with_reducible show wpAny _ _ (call (Value.builtin _) [Value.int _ _, Value.int _ _, Value.int _ _]) _ _ _); k_dflt (refine' max3_N ?k1 ?k2 ?k3 ?_; (case k1 => with_unfolding_all rfl); (case k2 => k_asm); (case k3 => k_asm); k_whole); intro h' tk' tt' F' N'; (try k_sweep)))) | walk1 | dsimp only | (leave1; walk_say "STEP leave1"; try dsimp only) | fail "no step"))
          rename Fr _ _ _ _ => F8
          rename News _ _ _ _ => N8
          dsimp only [WhileStep2]
          exact ⟨_, _, _, _, v.length, rfl, F8, N8, by simp, _, u ++ [c], v, p4 + 1 + 1, _, _, _, _, _, pins3 rfl rfl rfl, rfl, b7, hv2, rfl, drop_next hp7, by rw [b5, show nlc (ch1 92) = 0 by decide +kernel]; omega⟩
end

section
noncomputable def strsL (ws : List (Str × Tok)) : Array Value := (ws.map fun x => Value.str x.1 x.2).toArray
theorem strsL_size (ws : List (Str × Tok)) : (strsL ws).size = ws.length := by simp [strsL]
section
variable {prog : Program} {w : World} {A : Around} {E : Value → Shared → Prop} {s : Shared} {h₀ : Heap} {L D : Addr} {m : Str → Option Value} {news news' : List (Addr × Obj)} {n : Nat} {ws : List (Str × Tok)}
theorem strs_append {x : Str} {t : Tok} {Q : Value → Shared → Prop} (F : Fr h₀ L s.heap m) (N : News h₀ L s.heap news) (hl : ws.length ≤ 1000) (U : Upd D (listOf (strsL ws) n) (listOf (strsL (ws ++ [(x, t)])) (n + 1)) news news')
    (h : ∀ h', Fr h₀ L h' m → News h₀ L h' news' → Q .none { s with heap := h' }) : wpAny (model prog w) A (call (.builtin "list.append") [.ref D, .str x t]) Q E s := by
  have e : (strsL ws).push (.str x t) = strsL (ws ++ [(x, t)]) := by simp [strsL]
  refine append_K (its := strsL ws) (x := .str x t) F N (by rw [e]; exact U) h ?_
  rw [strsL_size, sizeLine]; omega
theorem strs_truthy {Q : Bool → Shared → Prop} (N : News h₀ L s.heap news) (hm : (D, listOf (strsL ws) n) ∈ news) (hl : ws.length ≤ 1000)
    (h : ∀ tk, Q (decide (0 < ws.length)) { s with toks := tk }) : wpAny (model prog w) A (truthy (.ref D)) Q E s := by
  have hL : s.heap.IsList D (strsL ws) := PySem.IsL.isList (n := n) (N.get hm)
  refine wpAny_truthy_list hL (by rw [strsL_size]; omega) ?_
  have e2 : (!(strsL ws).isEmpty) = decide (0 < ws.length) := by
    cases ws with
    | nil => rfl
    | cons a r => simp [strsL]
  rw [e2]; exact h _
theorem strs_truthyC {x : Str × Tok} {Q : Bool → Shared → Prop} (N : News h₀ L s.heap news) (hm : (D, listOf (strsL (x :: ws)) n) ∈ news) (hl : ws.length ≤ 900)
    (h : ∀ tk, Q true { s with toks := tk }) : wpAny (model prog w) A (truthy (.ref D)) Q E s :=
  strs_truthy N hm (by rw [List.length_cons]; omega) (fun tk => by rw [show decide (0 < (x :: ws).length) = true from decide_eq_true (Nat.succ_pos _)]; exact h tk)
theorem strs_pop0 {x : Str × Tok} {u : Tok} {Q : Value → Shared → Prop} (F : Fr h₀ L s.heap m) (N : News h₀ L s.heap news) (hl : ws.length ≤ 1000) (U : Upd D (listOf (strsL (x :: ws)) n) (listOf (strsL ws) (n + 1)) news news')
    (h : ∀ h', Fr h₀ L h' m → News h₀ L h' news' → Q (.str x.1 x.2) { s with heap := h' }) : wpAny (model prog w) A (call (.builtin "list.pop") [.ref D, .int 0 u]) Q E s := by
  refine kl_popAt (its := strsL (x :: ws)) (k := 0) (p := []) (q := ws.map fun x => Value.str x.1 x.2) (y := .str x.1 x.2) F N rfl ?_ rfl U ?_ h
  · rw [strsL_size]; unfold seqIndex?; simp
  · simp only [strsL, List.length_map, List.length_cons, sizeLine]; omega
end
end

section
local macro_rules | `(tactic| walk_at "mine pad") => `(tactic| skip)
local macro_rules | `(tactic| k_all) => `(tactic| first | assumption | exact ne_AllLt (by assumption) (by omega))
local macro_rules | `(tactic| k_mem) => `(tactic| first | assumption | exact List.Mem.head _ | exact List.Mem.tail _ (List.Mem.head _) | exact List.Mem.tail _ (by assumption) | exact List.Mem.tail _ (List.Mem.tail _ (by assumption)))
theorem token_pb (w : World) (mean : ExcName → Option Value) (mg mb : Str → Option Value) (lx dl fs pb : Nat) (k1 k2 k3 k4 tl tw : Tok) (ln : Int) (e : Nat) (x : Str × Tok) (ws : List (Str × Tok)) (rest : List (Addr × Obj))
   (h1 : (lx, instObj 101 dl) ∈ rest) (n4 : ∀ q ∈ rest, q.1 ≠ pb) (n5 : dl ≠ pb) (hl : ws.length ≤ 100) :
   Con w mean mg mb 91 ((pb, listOf (strsL (x :: ws)) e) :: (dl, lexD w k1 k2 k3 k4 tl tw ln fs pb) :: rest) [.ref lx] 3
     (fun news' v => v = .str x.1 x.2 ∧ ∃ e', news' = (pb, listOf (strsL ws) e') :: (dl, lexD w k1 k2 k3 k4 tl tw ln fs pb) :: rest) := by
  have n6 : ∀ q ∈ (dl, lexD w k1 k2 k3 k4 tl tw ln fs pb) :: rest, q.1 ≠ pb := List.forall_mem_cons.mpr ⟨n5, n4⟩
  unfold Con; k_fill
  intro pr ls dp un gd cn cs a ccd cl outer A₀ base h₀ L m s Q E B F X N T hk hd hu hret
  ((refine wpAny_call ?_; k_dflt ktr_enter; refine acut ?_; intro _))
  (repeat' (first | (k_unfold; (try dsimp only)) | (k_end; wrow_close) | ((with_reducible show wpAny _ _ (call (Value.builtin "list.append") _) _ _ _); with_reducible ((k_here; (with_reducible show wpAny _ _ (call (Value.builtin _) [Value.ref _, Value.str _ _]) _ _ _); k_dflt (refine' strs_append ?k1 ?k2 ?k3 ?k4 ?_; (case k1 => k_asm); (case k2 => k_asm); (case k4 => k_upd); (case k3 => omega)); intro h' F' N'))) | ((with_reducible show wpAny _ _ (call (Value.builtin "list.pop") _) _ _ _); with_reducible ((k_here; (with_reducible show wpAny _ _ (call (Value.builtin _) [Value.ref _, Value.int 0 _]) _ _ _); k_dflt (refine' strs_pop0 ?k1 ?k2 ?k3 ?k4 ?_; (case k1 => k_asm); (case k2 => k_asm); (case k4 => k_upd); (case k3 => omega)); intro h' F' N'))) | ((with_reducible show wpAny _ _ (truthy (Value.ref _)) _ _ _); with_reducible ((k_here; k_dflt (refine' strs_truthyC ?k1 ?k2 ?k3 ?_; (case k1 => k_asm); (case k2 => k_mem); (case k3 => omega)); intro tk'))) | ((with_reducible show wpAny _ _ (execs (_ :: _) _) _ _ _); with_reducible ((refine execs_cut ?_; intro _ _))) | ((with_reducible show wpAny _ _ (callWith _ (Value.ref _) _ _ _) _ _ _); with_reducible ((k_here; k_dflt (first | (refine' callWith_K ?k1 ?k2 ?_; (case k1 => k_asm); (case k2 => k_is); k_whole) | (refine' callWith_K0 ?k1 ?k2 ?_; (case k1 => k_in); (case k2 => k_is); k_whole))))) | ((with_reducible show wpAny _ _ (binaryOp .Mult (Value.int _ _) (Value.float _ _)) _ _ _); with_reducible ((k_here; k_dflt (refine' mulif_safe ?k1 ?_; (case k1 => omega); k_whole)))) | ((with_reducible show wpAny _ _ (binaryOp .Mult (Value.float _ _) (Value.int _ _)) _ _ _); with_reducible ((k_here; k_dflt (refine' mulfi_safe ?k1 ?_; (case k1 => omega); k_whole)))) | ((with_reducible show wpAny _ _ (binaryOp .Mod (Value.float _ _) (Value.float _ _)) _ _ _); with_reducible ((k_here; k_dflt (refine' fmod_safe ?k1 ?k2 ?_; (case k1 => with_unfolding_all rfl); (case k2 => decide +kernel); k_whole)))) | ((with_reducible show wpAny _ _ (binaryOp .Div (Value.float _ _) (Value.float _ _)) _ _ _); with_reducible ((k_here; k_dflt (refine' fdiv_safe ?k1 ?k2 ?_; (case k1 => with_unfolding_all rfl); (case k2 => decide +kernel); k_whole)))) | ((with_reducible show wpAny _ _ (binaryOp .Div (Value.int _ _) (Value.int _ _)) _ _ _); with_reducible ((k_here; k_dflt (refine' div_safe ?k1 ?k2 ?k3 ?_; (case k1 => with_unfolding_all rfl); (case k2 => omega); (case k3 => omega); k_whole)))) | ((with_reducible show wpAny _ _ (call (Value.builtin "min") _) _ _ _); with_reducible ((k_here; (with_reducible show wpAny _ _ (call (Value.builtin _) [Value.int _ _, Value.int _ _, Value.int _ _]) _ _ _); k_dflt (refine' min3_N ?k1 ?k2 ?k3 ?_; (case k1 => with_unfolding_all rfl); (case k2 => k_asm); (case k3 => k_asm); k_whole); intro h' tk' tt' F' N'; (try k_sweep)))) | ((with_reducible show wpAny _ _ (call (Value.builtin "max") _) _ _ _); with_reducible ((k_here; (with_reducible show wpAny _ _ (call (Value.builtin _) [Value.int _ _, Value.int _ _, Value.int _ _]) _ _ _); k_dflt (refine' max3_N ?k1 ?k2 ?k3 ?_; (case k1 => with_unfolding_all rfl); (case k2 => k_asm); (case k3 => k_asm); k_whole); intro h' tk' tt' F' N'; (try k_sweep)))) | walk1 | dsimp only | (leave1; walk_say "STEP leave1"; try dsimp only)))
  refine hret _ _ _ _ (by k_asm) (by k_asm) ⟨rfl, _, rfl⟩
theorem push_pb (w : World) (mean : ExcName → Option Value) (mg mb : Str → Option Value) (lx dl fs pb : Nat) (k1 k2 k3 k4 tl tw : Tok) (ln : Int) (e : Nat) (x : Str) (t : Tok) (ws : List (Str × Tok)) (rest : List (Addr × Obj))
   (h1 : (lx, instObj 101 dl) ∈ rest) (n4 : ∀ q ∈ rest, q.1 ≠ pb) (n5 : dl ≠ pb) (hl : ws.length ≤ 100) :
   Con w mean mg mb 98 ((pb, listOf (strsL ws) e) :: (dl, lexD w k1 k2 k3 k4 tl tw ln fs pb) :: rest) [.ref lx, .str x t] 3
     (fun news' v => v = .none ∧ ∃ e', news' = (pb, listOf (strsL (ws ++ [(x, t)])) e') :: (dl, lexD w k1 k2 k3 k4 tl tw ln fs pb) :: rest) := by
  have n6 : ∀ q ∈ (dl, lexD w k1 k2 k3 k4 tl tw ln fs pb) :: rest, q.1 ≠ pb := List.forall_mem_cons.mpr ⟨n5, n4⟩
  unfold Con; k_fill
  intro pr ls dp un gd cn cs a ccd cl outer A₀ base h₀ L m s Q E B F X N T hk hd hu hret
  ((refine wpAny_call ?_; k_dflt ktr_enter; refine acut ?_; intro _))
  (repeat' (first | (k_unfold; (try dsimp only)) | (k_end; wrow_close) | ((with_reducible show wpAny _ _ (call (Value.builtin "list.append") _) _ _ _); with_reducible ((k_here; (with_reducible show wpAny _ _ (call (Value.builtin _) [Value.ref _, Value.str _ _]) _ _ _); k_dflt (refine' strs_append ?k1 ?k2 ?k3 ?k4 ?_; (case k1 => k_asm); (case k2 => k_asm); (case k4 => k_upd); (case k3 => omega)); intro h' F' N'))) | ((with_reducible show wpAny _ _ (call (Value.builtin "list.pop") _) _ _ _); with_reducible ((k_here; (with_reducible show wpAny _ _ (call (Value.builtin _) [Value.ref _, Value.int 0 _]) _ _ _); k_dflt (refine' strs_pop0 ?k1 ?k2 ?k3 ?k4 ?_; (case k1 => k_asm); (case k2 => k_asm); (case k4 => k_upd); (case k3 => omega)); intro h' F' N'))) | ((with_reducible show wpAny _ _ (truthy (Value.ref _)) _ _ _); with_reducible ((k_here; k_dflt (refine' strs_truthyC ?k1 ?k2 ?k3 ?_; (case k1 => k_asm); (case k2 => k_mem); (case k3 => omega)); intro tk'))) | ((with_reducible show wpAny _ _ (execs (_ :: _) _) _ _ _); with_reducible ((refine execs_cut ?_; intro _ _))) | ((with_reducible show wpAny _ _ (callWith _ (Value.ref _) _ _ _) _ _ _); with_reducible ((k_here; k_dflt (first | (refine' callWith_K ?k1 ?k2 ?_; (case k1 => k_asm); (case k2 => k_is); k_whole) | (refine' callWith_K0 ?k1 ?k2 ?_; (case k1 => k_in); (case k2 => k_is); k_whole))))) | ((with_reducible show wpAny _ _ (binaryOp .Mult (Value.int _ _) (Value.float _ _)) _ _ _); with_reducible ((k_here; k_dflt (refine' mulif_safe ?k1 ?_; (case k1 => omega); k_whole)))) | ((with_reducible show wpAny _ _ (binaryOp .Mult (Value.float _ _) (Value.int _ _)) _ _ _); with_reducible ((k_here; k_dflt (refine' mulfi_safe ?k1 ?_; (case k1 => omega); k_whole)))) | ((with_reducible show wpAny _ _ (binaryOp .Mod (Value.float _ _) (Value.float _ _)) _ _ _); with_reducible ((k_here; k_dflt (refine' fmod_safe ?k1 ?k2 ?_; (case k1 => with_unfolding_all rfl); (case k2 => decide +kernel); k_whole)))) | ((with_reducible show wpAny _ _ (binaryOp .Div (Value.float _ _) (Value.float _ _)) _ _ _); with_reducible ((k_here; k_dflt (refine' fdiv_safe ?k1 ?k2 ?_; (case k1 => with_unfolding_all rfl); (case k2 => decide +kernel); k_whole)))) | ((with_reducible show wpAny _ _ (binaryOp .Div (Value.int _ _) (Value.int _ _)) _ _ _); with_reducible ((k_here; k_dflt (refine' div_safe ?k1 ?k2 ?k3 ?_; (case k1 => with_unfolding_all rfl); (case k2 => omega); (case k3 => omega); k_whole)))) | ((with_reducible show wpAny _ _ (call (Value.builtin "min") _) _ _ _); with_reducible ((k_here; (with_reducible show wpAny _ _ (call (Value.builtin _) [Value.int _ _, Value.int _ _, Value.int _ _]) _ _ _); k_dflt (refine' min3_N ?k1 ?k2 ?k3 ?_; (case k1 => with_unfolding_all rfl); (case k2 => k_asm); (case k3 => k_asm); k_whole); intro h' tk' tt' F' N'; (try k_sweep)))) | ((with_reducible show wpAny _ _ (call (Value.builtin "max") _) _ _ _); with_reducible ((k_here; (with_reducible show wpAny _ _ (call (Value.builtin _) [Value.int _ _, Value.int _ _, Value.int _ _]) _ _ _); k_dflt (refine' max3_N ?k1 ?k2 ?k3 ?_; (case k1 => with_unfolding_all rfl); (case k2 => k_asm); (case k3 => k_asm); k_whole); intro h' tk' tt' F' N'; (try k_sweep)))) | walk1 | dsimp only | (leave1; walk_say "STEP leave1"; try dsimp only)))
  refine hret _ _ _ _ (by k_asm) (by k_asm) ⟨rfl, _, rfl⟩
end

section
theorem Con.c {w : World} {mean : ExcName → Option Value} {mg mb : Str → Option Value} {f : Addr} {news : List (Addr × Obj)} {vs : List Value} {cost cost' : Nat} {Ret Ret' : List (Addr × Obj) → Value → Prop} (h : Con w mean mg mb f news vs cost Ret) (hc : cost ≤ cost') (hr : ∀ n v, Ret n v → Ret' n v) : ConC w mean mg mb f news vs cost' Ret' :=
  fun pr ls dp un gd cn cs a ccd cl outer A₀ base h₀ L m s Q E _ k1 k2 k3 k4 k5 kK kd ku hq => h pr ls dp un gd cn cs a ccd cl outer A₀ base h₀ L m s Q E k1 k2 k3 k4 k5 kK (kd.mono hc) (ku.mono hc) (fun v n h' tk' f n' r => hq v n h' tk' f n' (hr _ _ r))
theorem ConC.mono {w : World} {mean : ExcName → Option Value} {mg mb : Str → Option Value} {f : Addr} {news : List (Addr × Obj)} {vs : List Value} {cost : Nat} {Ret Ret' : List (Addr × Obj) → Value → Prop} (h : ConC w mean mg mb f news vs cost Ret) (hr : ∀ n v, Ret n v → Ret' n v) : ConC w mean mg mb f news vs cost Ret' :=
  fun pr ls dp un gd cn cs a ccd cl outer A₀ base h₀ L m s Q E k0 k1 k2 k3 k4 k5 kK kd ku hq => h pr ls dp un gd cn cs a ccd cl outer A₀ base h₀ L m s Q E k0 k1 k2 k3 k4 k5 kK kd ku (fun v n h' tk' f n' r => hq v n h' tk' f n' (hr _ _ r))
noncomputable def qHd (ws : List (Str × Tok)) : Str := match ws with
  | [] => ⟨#[]⟩
  | x :: _ => x.1
/-- the next word: off the pushback, or none -/
theorem next_con (w : World) (mean : ExcName → Option Value) (mg mb : Str → Option Value) (cz : List Nat) (lx dl fdd fs rd l pb : Nat) (fdx : FuncData) (k1 k2 k3 k4 tl tw kr tp : Tok) (ln : Int) (p n e : Nat) (fr : FuncData) (fix rest : List (Addr × Obj)) (ws : List (Str × Tok))
   (I : LexIn w mean mg mb cz lx dl fdd fs rd l fdx kr fr fix rest) (n4 : ∀ q ∈ rest, q.1 ≠ pb) (n5 : pb ≠ dl) (n6 : pb ≠ l) (hp : cz.drop p = []) (hl : ws.length ≤ 100) :
   ConC w mean mg mb 91 ((pb, listOf (strsL ws) e) :: (dl, lexD w k1 k2 k3 k4 tl tw ln fs pb) :: (l, listOf #[.int (p : Int) tp] n) :: rest) [.ref lx] 5
     (fun news' v => ∃ t1 t2 n' tl' p' e', cz.drop p' = [] ∧ v = .str (qHd ws) t1 ∧ news' = (pb, listOf (strsL ws.tail) e') :: (dl, lexD w k1 k2 k3 k4 tl' tw ln fs pb) :: (l, listOf #[.int ((p' : Nat) : Int) t2] n') :: rest) := by
  cases ws with
  | nil =>
    refine ConC.mono (token_con w mean mg mb cz lx dl fdd fs rd l pb fdx k1 k2 k3 k4 tl tw kr tp ln ln p n e fr fix rest I n4 n5 n6 0 [] [] [] (Or.inr ⟨rfl, hp, rfl⟩) (Or.inl ⟨rfl, rfl, rfl⟩) (Nat.zero_le _)) ?_
    rintro news' v ⟨t1, t2, n', tl', p', h1, h2, h3⟩
    exact ⟨t1, t2, n', tl', p', e, h1, h2, h3⟩
  | cons x ws =>
    refine Con.c (token_pb w mean mg mb lx dl fs pb k1 k2 k3 k4 tl tw ln e x ws ((l, listOf #[.int (p : Int) tp] n) :: rest) (.tail _ I.h1) (List.forall_mem_cons.mpr ⟨Ne.symm n6, n4⟩) (Ne.symm n5) (by simp at hl; omega)) (by omega) ?_
    rintro news' v ⟨h1, e', h2⟩
    exact ⟨x.2, tp, n, tl, p, e', hp, h1, h2⟩
end

section
local macro_rules | `(tactic| k_all) => `(tactic| assumption)
theorem push_con (w : World) (mean : ExcName → Option Value) (mg mb : Str → Option Value) (l x : Addr) (xs : List Addr) (e : Nat) (ka kb : Addr → Int) (rest : List (Addr × Obj))
   (hne : ∀ q ∈ rest, q.1 ≠ l) (hit : ∀ x ∈ xs, IT rest ka kb x) (hx : IT rest ka kb x) (hlen : xs.length ≤ 6) :
   Con w mean mg mb 28 ((l, listOf (refs xs) e) :: rest) [.ref l, .ref x] 2
     (fun news' v => v = .none ∧ news' = (l, listOf (refs (pushL (kx ka kb) xs x)) (e + 1)) :: rest) := by
  unfold Con; k_fill
  intro pr ls dp un gd cn cs a ccd cl outer A₀ base h₀ L m s Q E B F X N T hk hd hu hret
  have hit2 : ∀ y ∈ xs ++ [x], IT rest ka kb y := by
    intro y hy
    rcases List.mem_append.mp hy with q | q
    · exact hit y q
    · rw [List.mem_singleton.mp q]; exact hx
  have hl2 : (xs ++ [x]).length = xs.length + 1 := by simp
  ((refine wpAny_call ?_; k_dflt ktr_enter; refine acut ?_; intro _))
  (repeat' ((fail_if_success (with_reducible show wpAny _ _ (exec (Stmt.While _ _ _ _) _) _ _ _)); first | (k_unfold; (try dsimp only)) | (k_end; wrow_close) | (with_reducible ((k_here; (with_reducible show wpAny _ _ (call (Value.ref 63) _) _ _ _); k_dflt (refine' (up_conI _ _ _ _ _ _ _ _ _ _ _ _ ?ka ?kb ?kc ?ke) _ _ _ _ _ _ _ _ _ _ _ _ _ _ _ _ _ _ _ ?k1 ?k2 ?k3 ?k4 ?k5 ?kK ?kd ?ku ?_; (((case k1 => first | k_asm | ktn_no "the frames below"); (case k2 => first | k_asm | ktn_no "the frame"); (case k3 => first | k_asm | ktn_no "the written part"); (case k4 => first | k_asm | ktn_no "the ledger"); (case k5 => first | k_asm | ktn_no "the top"); (case kK => first | exact rfl | assumption | ktn_no "no def"); (case kd => first | ktr_room | ktn_no "the room"); (case ku => first | ktr_units | ktn_no "the units"))); (case ka => assumption); (case kb => (first | assumption | exact forall_set (by assumption) (by assumption) | exact forall_set (forall_set (by assumption) (by assumption)) (by assumption))); (case kc => (try simp only [List.length_set]); omega); (case ke => (try simp only [List.length_set]); omega)); intro v' news' h' tk' F' N' hr'; obtain ⟨hv', hn'⟩ := hr'; subst hv'; subst hn'))) | (with_reducible ((k_here; (with_reducible show wpAny _ _ (call (Value.ref 56) _) _ _ _); k_dflt (refine' (down_conI _ _ _ _ _ _ _ _ _ _ _ _ _ _ ?ka ?kb ?kc ?kd1 ?ke) _ _ _ _ _ _ _ _ _ _ _ _ _ _ _ _ _ _ _ ?k1 ?k2 ?k3 ?k4 ?k5 ?kK ?kd ?ku ?_; (((case k1 => first | k_asm | ktn_no "the frames below"); (case k2 => first | k_asm | ktn_no "the frame"); (case k3 => first | k_asm | ktn_no "the written part"); (case k4 => first | k_asm | ktn_no "the ledger"); (case k5 => first | k_asm | ktn_no "the top"); (case kK => first | exact rfl | assumption | ktn_no "no def"); (case kd => first | ktr_room | ktn_no "the room"); (case ku => first | ktr_units | ktn_no "the units"))); (case ka => assumption); (case kb => (first | assumption | exact forall_set (by assumption) (by assumption) | exact forall_set (forall_set (by assumption) (by assumption)) (by assumption))); (case kc => (try simp only [List.length_set]); omega); (case kd1 => omega); (case ke => (try simp only [List.length_set]); omega)); intro v' news' h' tk' F' N' hr'; obtain ⟨hv', hn'⟩ := hr'; subst hv'; subst hn'))) | ((with_reducible show wpAny _ _ (truthy (Value.ref _)) _ _ _); with_reducible ((k_here; k_dflt (refine' refs_truthy ?k1 ?k2 ?k3 ?_; (case k1 => k_asm); (case k2 => k_mem); (case k3 => omega)); intro tk'))) | ((with_reducible show wpAny _ _ (call (Value.builtin "list.pop") _) _ _ _); with_reducible ((k_here; (with_reducible show wpAny _ _ (call (Value.builtin _) [Value.ref _]) _ _ _); k_dflt (refine' refs_pop ?k1 ?k2 ?k3 ?k4 ?_; (case k1 => k_asm); (case k2 => k_asm); (case k4 => k_upd); (case k3 => omega)); intro h' F' N'))) | ((with_reducible show wpAny _ _ (call (Value.builtin "list.append") _) _ _ _); with_reducible ((k_here; (with_reducible show wpAny _ _ (call (Value.builtin _) [Value.ref _, Value.ref _]) _ _ _); k_dflt (refine' refs_append ?k1 ?k2 ?k3 ?k4 ?_; (case k1 => k_asm); (case k2 => k_asm); (case k4 => k_upd); (case k3 => omega)); intro h' F' N'))) | ((with_reducible show wpAny _ _ (call (Value.builtin "len") _) _ _ _); with_reducible ((k_here; (with_reducible show wpAny _ _ (call _ [Value.ref _]) _ _ _); k_dflt (refine' refs_len ?k1 ?k2 ?k3 ?_; (case k1 => k_asm); (case k2 => k_mem); (case k3 => omega); k_whole)))) | ((with_reducible show wpAny _ _ (binaryOp .RShift (Value.int _ _) (Value.int _ _)) _ _ _); with_reducible ((k_here; k_dflt (refine' wpAny_rshift1_int ?k1 ?_; (case k1 => omega); k_whole)))) | (with_reducible ((k_here; (with_reducible show wpAny _ _ (compareOp _ (Value.ref _) (Value.ref _)) _ _ _); k_dflt (refine' item_ltP ?k1 ?k2 ?k3 ?k4 ?k5 ?_; (case k1 => k_asm); (case k2 => assumption); (case k3 => assumption); (case k4 => ((intro p hp; first | exact hp | exact List.Mem.tail _ hp | exact List.Mem.tail _ (List.Mem.tail _ hp) | exact List.Mem.tail _ (List.Mem.tail _ (List.Mem.tail _ hp))))); (case k5 => ktr_units); k_whole)))) | ((with_reducible show wpAny _ _ (setItem (Value.ref _) (Value.int _ _) _) _ _ _); with_reducible ((k_here; (with_reducible show wpAny _ _ (setItem (Value.ref _) (Value.int _ _) (Value.ref _)) _ _ _); k_dflt (refine' refs_set ?k1 ?k2 ?k3 ?k4 ?k5 ?k6 ?_; (case k1 => k_asm); (case k2 => k_asm); (case k6 => k_upd); (case k3 => omega); (case k4 => (try simp only [List.length_set]); omega); (case k5 => (try simp only [List.length_set]); omega)); intro h' F' N'))) | (with_reducible ((k_here; (with_reducible show wpAny _ _ (subscriptTail _ _ (Value.ref _) (Value.int _ _)) _ _ _); k_dflt (refine' refs_itemP ?k1 ?k2 ?k3 ?k4 ?k5 ?k6 ?_ ?k7; (case k1 => k_asm); (case k2 => k_mem); (case k3 => (first | assumption | exact forall_set (by assumption) (by assumption) | exact forall_set (forall_set (by assumption) (by assumption)) (by assumption))); (case k4 => omega); (case k5 => (try simp only [List.length_set]); omega); (case k6 => (try simp only [List.length_set]); omega); (case k7 => with_unfolding_all rfl)); intro x' hP' hx' hxe'))) | ((with_reducible show wpAny _ _ (execs (_ :: _) _) _ _ _); with_reducible ((refine execs_cut ?_; intro _ _))) | ((with_reducible show wpAny _ _ (callWith _ (Value.ref _) _ _ _) _ _ _); with_reducible ((k_here; k_dflt (first | (refine' callWith_K ?k1 ?k2 ?_; (case k1 => k_asm); (case k2 => k_is); k_whole) | (refine' callWith_K0 ?k1 ?k2 ?_; (case k1 => k_in); (case k2 => k_is); k_whole))))) | ((with_reducible show wpAny _ _ (binaryOp .Mult (Value.int _ _) (Value.float _ _)) _ _ _); with_reducible ((k_here; k_dflt (refine' mulif_safe ?k1 ?_; (case k1 => omega); k_whole)))) | ((with_reducible show wpAny _ _ (binaryOp .Mult (Value.float _ _) (Value.int _ _)) _ _ _); with_reducible ((k_here; k_dflt (refine' mulfi_safe ?k1 ?_; (case k1 => omega); k_whole)))) | ((with_reducible show wpAny _ _ (binaryOp .Mod (Value.float _ _) (Value.float _ _)) _ _ _); with_reducible ((k_here; k_dflt (refine' fmod_safe ?k1 ?k2 ?_; (case k1 => with_unfolding_all rfl); (case k2 => decide +kernel); k_whole)))) | ((with_reducible show wpAny _ _ (binaryOp .Div (Value.float _ _) (Value.float _ _)) _ _ _); with_reducible ((k_here; k_dflt (refine' fdiv_safe ?k1 ?k2 ?_; (case k1 => with_unfolding_all rfl); (case k2 => decide +kernel); k_whole)))) | ((with_reducible show wpAny _ _ (binaryOp .Div (Value.int _ _) (Value.int _ _)) _ _ _); with_reducible ((k_here; k_dflt (refine' div_safe ?k1 ?k2 ?k3 ?_; (case k1 => with_unfolding_all rfl); (case k2 => omega); (case k3 => omega); k_whole)))) | ((with_reducible show wpAny _ _ (call (Value.builtin "min") _) _ _ _); with_reducible ((k_here; (with_reducible show wpAny _ _ (call (Value.builtin _) [Value.int _ _, Value.int _ _, Value.int _ _]) _ _ _); k_dflt (refine' min3_N ?k1 ?k2 ?k3 ?_; (case k1 => with_unfolding_all rfl); (case k2 => k_asm); (case k3 => k_asm); k_whole); intro h' tk' tt' F' N'; (try k_sweep)))) | ((with_reducible show wpAny _ _ (call (Value.builtin "max") _) _ _ _); with_reducible ((k_here; (with_reducible show wpAny _ _ (call (Value.builtin _) [Value.int _ _, Value.int _ _, Value.int _ _]) _ _ _); k_dflt (refine' max3_N ?k1 ?k2 ?k3 ?_; (case k1 => with_unfolding_all rfl); (case k2 => k_asm); (case k3 => k_asm); k_whole); intro h' tk' tt' F' N'; (try k_sweep)))) | walk1 | dsimp only | (leave1; walk_say "STEP leave1"; try dsimp only) | fail "no step"))
  refine hret _ _ _ _ (by k_asm) (by k_asm) ⟨rfl, ?_⟩
  unfold pushL
  rw [show ((xs ++ [x]).length - 1 : Int).toNat = xs.length from by omega]; rfl
theorem pop_con (w : World) (mean : ExcName → Option Value) (mg mb : Str → Option Value) (l z : Addr) (xs : List Addr) (e : Nat) (ka kb : Addr → Int) (rest : List (Addr × Obj))
   (hne : ∀ q ∈ rest, q.1 ≠ l) (hit : ∀ x ∈ xs, IT rest ka kb x) (hx : IT rest ka kb z) (hlen : xs.length ≤ 6) :
   Con w mean mg mb 35 ((l, listOf (refs (xs ++ [z])) e) :: rest) [.ref l] 3
     (fun news' v => v = .ref (popV xs z) ∧ news' = (l, listOf (refs (popL (kx ka kb) xs z)) (e + 1)) :: rest) := by
  unfold Con; k_fill
  intro pr ls dp un gd cn cs a ccd cl outer A₀ base h₀ L m s Q E B F X N T hk hd hu hret
  ((refine wpAny_call ?_; k_dflt ktr_enter; refine acut ?_; intro _))
  (repeat' ((fail_if_success (with_reducible show wpAny _ _ (exec (Stmt.While _ _ _ _) _) _ _ _)); first | (k_unfold; (try dsimp only)) | (k_end; wrow_close) | (with_reducible ((k_here; (with_reducible show wpAny _ _ (call (Value.ref 63) _) _ _ _); k_dflt (refine' (up_conI _ _ _ _ _ _ _ _ _ _ _ _ ?ka ?kb ?kc ?ke) _ _ _ _ _ _ _ _ _ _ _ _ _ _ _ _ _ _ _ ?k1 ?k2 ?k3 ?k4 ?k5 ?kK ?kd ?ku ?_; (((case k1 => first | k_asm | ktn_no "the frames below"); (case k2 => first | k_asm | ktn_no "the frame"); (case k3 => first | k_asm | ktn_no "the written part"); (case k4 => first | k_asm | ktn_no "the ledger"); (case k5 => first | k_asm | ktn_no "the top"); (case kK => first | exact rfl | assumption | ktn_no "no def"); (case kd => first | ktr_room | ktn_no "the room"); (case ku => first | ktr_units | ktn_no "the units"))); (case ka => assumption); (case kb => (first | assumption | exact forall_set (by assumption) (by assumption) | exact forall_set (forall_set (by assumption) (by assumption)) (by assumption))); (case kc => (try simp only [List.length_set]); omega); (case ke => (try simp only [List.length_set]); omega)); intro v' news' h' tk' F' N' hr'; obtain ⟨hv', hn'⟩ := hr'; subst hv'; subst hn'))) | (with_reducible ((k_here; (with_reducible show wpAny _ _ (call (Value.ref 56) _) _ _ _); k_dflt (refine' (down_conI _ _ _ _ _ _ _ _ _ _ _ _ _ _ ?ka ?kb ?kc ?kd1 ?ke) _ _ _ _ _ _ _ _ _ _ _ _ _ _ _ _ _ _ _ ?k1 ?k2 ?k3 ?k4 ?k5 ?kK ?kd ?ku ?_; (((case k1 => first | k_asm | ktn_no "the frames below"); (case k2 => first | k_asm | ktn_no "the frame"); (case k3 => first | k_asm | ktn_no "the written part"); (case k4 => first | k_asm | ktn_no "the ledger"); (case k5 => first | k_asm | ktn_no "the top"); (case kK => first | exact rfl | assumption | ktn_no "no def"); (case kd => first | ktr_room | ktn_no "the room"); (case ku => first | ktr_units | ktn_no "the units"))); (case ka => assumption); (case kb => (first | assumption | exact forall_set (by assumption) (by assumption) | exact forall_set (forall_set (by assumption) (by assumption)) (by assumption))); (case kc => (try simp only [List.length_set]); omega); (case kd1 => omega); (case ke => (try simp only [List.length_set]); omega)); intro v' news' h' tk' F' N' hr'; obtain ⟨hv', hn'⟩ := hr'; subst hv'; subst hn'))) | ((with_reducible show wpAny _ _ (truthy (Value.ref _)) _ _ _); with_reducible ((k_here; k_dflt (refine' refs_truthy ?k1 ?k2 ?k3 ?_; (case k1 => k_asm); (case k2 => k_mem); (case k3 => omega)); intro tk'))) | ((with_reducible show wpAny _ _ (call (Value.builtin "list.pop") _) _ _ _); with_reducible ((k_here; (with_reducible show wpAny _ _ (call (Value.builtin _) [Value.ref _]) _ _ _); k_dflt (refine' refs_pop ?k1 ?k2 ?k3 ?k4 ?_; (case k1 => k_asm); (case k2 => k_asm); (case k4 => k_upd); (case k3 => omega)); intro h' F' N'))) | ((with_reducible show wpAny _ _ (call (Value.builtin "list.append") _) _ _ _); with_reducible ((k_here; (with_reducible show wpAny _ _ (call (Value.builtin _) [Value.ref _, Value.ref _]) _ _ _); k_dflt (refine' refs_append ?k1 ?k2 ?k3 ?k4 ?_; (case k1 => k_asm); (case k2 => k_asm); (case k4 => k_upd); (case k3 => omega)); intro h' F' N'))) | ((with_reducible show wpAny _ _ (call (Value.builtin "len") _) _ _ _); with_reducible ((k_here; (with_reducible show wpAny _ _ (call _ [Value.ref _]) _ _ _); k_dflt (refine' refs_len ?k1 ?k2 ?k3 ?_; (case k1 => k_asm); (case k2 => k_mem); (case k3 => omega); k_whole)))) | ((with_reducible show wpAny _ _ (binaryOp .RShift (Value.int _ _) (Value.int _ _)) _ _ _); with_reducible ((k_here; k_dflt (refine' wpAny_rshift1_int ?k1 ?_; (case k1 => omega); k_whole)))) | (with_reducible ((k_here; (with_reducible show wpAny _ _ (compareOp _ (Value.ref _) (Value.ref _)) _ _ _); k_dflt (refine' item_ltP ?k1 ?k2 ?k3 ?k4 ?k5 ?_; (case k1 => k_asm); (case k2 => assumption); (case k3 => assumption); (case k4 => ((intro p hp; first | exact hp | exact List.Mem.tail _ hp | exact List.Mem.tail _ (List.Mem.tail _ hp) | exact List.Mem.tail _ (List.Mem.tail _ (List.Mem.tail _ hp))))); (case k5 => ktr_units); k_whole)))) | ((with_reducible show wpAny _ _ (setItem (Value.ref _) (Value.int _ _) _) _ _ _); with_reducible ((k_here; (with_reducible show wpAny _ _ (setItem (Value.ref _) (Value.int _ _) (Value.ref _)) _ _ _); k_dflt (refine' refs_set ?k1 ?k2 ?k3 ?k4 ?k5 ?k6 ?_; (case k1 => k_asm); (case k2 => k_asm); (case k6 => k_upd); (case k3 => omega); (case k4 => (try simp only [List.length_set]); omega); (case k5 => (try simp only [List.length_set]); omega)); intro h' F' N'))) | (with_reducible ((k_here; (with_reducible show wpAny _ _ (subscriptTail _ _ (Value.ref _) (Value.int _ _)) _ _ _); k_dflt (refine' refs_itemP ?k1 ?k2 ?k3 ?k4 ?k5 ?k6 ?_ ?k7; (case k1 => k_asm); (case k2 => k_mem); (case k3 => (first | assumption | exact forall_set (by assumption) (by assumption) | exact forall_set (forall_set (by assumption) (by assumption)) (by assumption))); (case k4 => omega); (case k5 => (try simp only [List.length_set]); omega); (case k6 => (try simp only [List.length_set]); omega); (case k7 => with_unfolding_all rfl)); intro x' hP' hx' hxe'))) | ((with_reducible show wpAny _ _ (execs (_ :: _) _) _ _ _); with_reducible ((refine execs_cut ?_; intro _ _))) | ((with_reducible show wpAny _ _ (callWith _ (Value.ref _) _ _ _) _ _ _); with_reducible ((k_here; k_dflt (first | (refine' callWith_K ?k1 ?k2 ?_; (case k1 => k_asm); (case k2 => k_is); k_whole) | (refine' callWith_K0 ?k1 ?k2 ?_; (case k1 => k_in); (case k2 => k_is); k_whole))))) | ((with_reducible show wpAny _ _ (binaryOp .Mult (Value.int _ _) (Value.float _ _)) _ _ _); with_reducible ((k_here; k_dflt (refine' mulif_safe ?k1 ?_; (case k1 => omega); k_whole)))) | ((with_reducible show wpAny _ _ (binaryOp .Mult (Value.float _ _) (Value.int _ _)) _ _ _); with_reducible ((k_here; k_dflt (refine' mulfi_safe ?k1 ?_; (case k1 => omega); k_whole)))) | ((with_reducible show wpAny _ _ (binaryOp .Mod (Value.float _ _) (Value.float _ _)) _ _ _); with_reducible ((k_here; k_dflt (refine' fmod_safe ?k1 ?k2 ?_; (case k1 => with_unfolding_all rfl); (case k2 => decide +kernel); k_whole)))) | ((with_reducible show wpAny _ _ (binaryOp .Div (Value.float _ _) (Value.float _ _)) _ _ _); with_reducible ((k_here; k_dflt (refine' fdiv_safe ?k1 ?k2 ?_; (case k1 => with_unfolding_all rfl); (case k2 => decide +kernel); k_whole)))) | ((with_reducible show wpAny _ _ (binaryOp .Div (Value.int _ _) (Value.int _ _)) _ _ _); with_reducible ((k_here; k_dflt (refine' div_safe ?k1 ?k2 ?k3 ?_; (case k1 => with_unfolding_all rfl); (case k2 => omega); (case k3 => omega); k_whole)))) | ((with_reducible show wpAny _ _ (call (Value.builtin "min") _) _ _ _); with_reducible ((k_here; (with_reducible show wpAny _ _ (call (Value.builtin _) [Value.int _ _, Value.int _ _, Value.int _ _]) _ _ _); k_dflt (refine' min3_N ?k1 ?k2 ?k3 ?_; (case k1 => with_unfolding_all rfl); (case k2 => k_asm); (case k3 => k_asm); k_whole); intro h' tk' tt' F' N'; (try k_sweep)))) | ((with_reducible show wpAny _ _ (call (Value.builtin "max") _) _ _ _); with_reducible ((k_here; (with_reducible show wpAny _ _ (call (Value.builtin _) [Value.int _ _, Value.int _ _, Value.int _ _]) _ _ _); k_dflt (refine' max3_N ?k1 ?k2 ?k3 ?_; (case k1 => with_unfolding_all rfl); (case k2 => k_asm); (case k3 => k_asm); k_whole); intro h' tk' tt' F' N'; (try k_sweep)))) | walk1 | dsimp only | (leave1; walk_say "STEP leave1"; try dsimp only) | fail "no step"))
  · rename _[_]? = some _ => hy
    have q := pop_is (κ := kx ka kb) (z := z) hy
    refine hret _ _ _ _ (by k_asm) (by k_asm) ⟨by rw [q.1], by rw [q.2]; rfl⟩
  · have q := pop_no (κ := kx ka kb) (xs := xs) (z := z) (by assumption)
    refine hret _ _ _ _ (by k_asm) (by k_asm) ⟨by rw [q.1], by rw [q.2]⟩
theorem replace_con (w : World) (mean : ExcName → Option Value) (mg mb : Str → Option Value) (l x : Addr) (xs : List Addr) (e : Nat) (ka kb : Addr → Int) (rest : List (Addr × Obj))
   (hne : ∀ q ∈ rest, q.1 ≠ l) (hit : ∀ x ∈ xs, IT rest ka kb x) (hx : IT rest ka kb x) (hlen : xs.length ≤ 6) (h0 : 0 < xs.length) :
   Con w mean mg mb 42 ((l, listOf (refs xs) e) :: rest) [.ref l, .ref x] 3
     (fun news' v => (∃ y, xs[0]? = some y ∧ v = .ref y) ∧ news' = (l, listOf (refs (up (kx ka kb) (xs.set 0 x) 0)) e) :: rest) := by
  unfold Con; k_fill
  intro pr ls dp un gd cn cs a ccd cl outer A₀ base h₀ L m s Q E B F X N T hk hd hu hret
  ((refine wpAny_call ?_; k_dflt ktr_enter; refine acut ?_; intro _))
  (repeat' ((fail_if_success (with_reducible show wpAny _ _ (exec (Stmt.While _ _ _ _) _) _ _ _)); first | (k_unfold; (try dsimp only)) | (k_end; wrow_close) | (with_reducible ((k_here; (with_reducible show wpAny _ _ (call (Value.ref 63) _) _ _ _); k_dflt (refine' (up_conI _ _ _ _ _ _ _ _ _ _ _ _ ?ka ?kb ?kc ?ke) _ _ _ _ _ _ _ _ _ _ _ _ _ _ _ _ _ _ _ ?k1 ?k2 ?k3 ?k4 ?k5 ?kK ?kd ?ku ?_; (((case k1 => first | k_asm | ktn_no "the frames below"); (case k2 => first | k_asm | ktn_no "the frame"); (case k3 => first | k_asm | ktn_no "the written part"); (case k4 => first | k_asm | ktn_no "the ledger"); (case k5 => first | k_asm | ktn_no "the top"); (case kK => first | exact rfl | assumption | ktn_no "no def"); (case kd => first | ktr_room | ktn_no "the room"); (case ku => first | ktr_units | ktn_no "the units"))); (case ka => assumption); (case kb => (first | assumption | exact forall_set (by assumption) (by assumption) | exact forall_set (forall_set (by assumption) (by assumption)) (by assumption))); (case kc => (try simp only [List.length_set]); omega); (case ke => (try simp only [List.length_set]); omega)); intro v' news' h' tk' F' N' hr'; obtain ⟨hv', hn'⟩ := hr'; subst hv'; subst hn'))) | (with_reducible ((k_here; (with_reducible show wpAny _ _ (call (Value.ref 56) _) _ _ _); k_dflt (refine' (down_conI _ _ _ _ _ _ _ _ _ _ _ _ _ _ ?ka ?kb ?kc ?kd1 ?ke) _ _ _ _ _ _ _ _ _ _ _ _ _ _ _ _ _ _ _ ?k1 ?k2 ?k3 ?k4 ?k5 ?kK ?kd ?ku ?_; (((case k1 => first | k_asm | ktn_no "the frames below"); (case k2 => first | k_asm | ktn_no "the frame"); (case k3 => first | k_asm | ktn_no "the written part"); (case k4 => first | k_asm | ktn_no "the ledger"); (case k5 => first | k_asm | ktn_no "the top"); (case kK => first | exact rfl | assumption | ktn_no "no def"); (case kd => first | ktr_room | ktn_no "the room"); (case ku => first | ktr_units | ktn_no "the units"))); (case ka => assumption); (case kb => (first | assumption | exact forall_set (by assumption) (by assumption) | exact forall_set (forall_set (by assumption) (by assumption)) (by assumption))); (case kc => (try simp only [List.length_set]); omega); (case kd1 => omega); (case ke => (try simp only [List.length_set]); omega)); intro v' news' h' tk' F' N' hr'; obtain ⟨hv', hn'⟩ := hr'; subst hv'; subst hn'))) | ((with_reducible show wpAny _ _ (truthy (Value.ref _)) _ _ _); with_reducible ((k_here; k_dflt (refine' refs_truthy ?k1 ?k2 ?k3 ?_; (case k1 => k_asm); (case k2 => k_mem); (case k3 => omega)); intro tk'))) | ((with_reducible show wpAny _ _ (call (Value.builtin "list.pop") _) _ _ _); with_reducible ((k_here; (with_reducible show wpAny _ _ (call (Value.builtin _) [Value.ref _]) _ _ _); k_dflt (refine' refs_pop ?k1 ?k2 ?k3 ?k4 ?_; (case k1 => k_asm); (case k2 => k_asm); (case k4 => k_upd); (case k3 => omega)); intro h' F' N'))) | ((with_reducible show wpAny _ _ (call (Value.builtin "list.append") _) _ _ _); with_reducible ((k_here; (with_reducible show wpAny _ _ (call (Value.builtin _) [Value.ref _, Value.ref _]) _ _ _); k_dflt (refine' refs_append ?k1 ?k2 ?k3 ?k4 ?_; (case k1 => k_asm); (case k2 => k_asm); (case k4 => k_upd); (case k3 => omega)); intro h' F' N'))) | ((with_reducible show wpAny _ _ (call (Value.builtin "len") _) _ _ _); with_reducible ((k_here; (with_reducible show wpAny _ _ (call _ [Value.ref _]) _ _ _); k_dflt (refine' refs_len ?k1 ?k2 ?k3 ?_; (case k1 => k_asm); (case k2 => k_mem); (case k3 => omega); k_whole)))) | ((with_reducible show wpAny _ _ (binaryOp .RShift (Value.int _ _) (Value.int _ _)) _ _ _); with_reducible ((k_here; k_dflt (refine' wpAny_rshift1_int ?k1 ?_; (case k1 => omega); k_whole)))) | (with_reducible ((k_here; (with_reducible show wpAny _ _ (compareOp _ (Value.ref _) (Value.ref _)) _ _ _); k_dflt (refine' item_ltP ?k1 ?k2 ?k3 ?k4 ?k5 ?_; (case k1 => k_asm); (case k2 => assumption); (case k3 => assumption); (case k4 => ((intro p hp; first | exact hp | exact List.Mem.tail _ hp | exact List.Mem.tail _ (List.Mem.tail _ hp) | exact List.Mem.tail _ (List.Mem.tail _ (List.Mem.tail _ hp))))); (case k5 => ktr_units); k_whole)))) | ((with_reducible show wpAny _ _ (setItem (Value.ref _) (Value.int _ _) _) _ _ _); with_reducible ((k_here; (with_reducible show wpAny _ _ (setItem (Value.ref _) (Value.int _ _) (Value.ref _)) _ _ _); k_dflt (refine' refs_set ?k1 ?k2 ?k3 ?k4 ?k5 ?k6 ?_; (case k1 => k_asm); (case k2 => k_asm); (case k6 => k_upd); (case k3 => omega); (case k4 => (try simp only [List.length_set]); omega); (case k5 => (try simp only [List.length_set]); omega)); intro h' F' N'))) | (with_reducible ((k_here; (with_reducible show wpAny _ _ (subscriptTail _ _ (Value.ref _) (Value.int _ _)) _ _ _); k_dflt (refine' refs_itemP ?k1 ?k2 ?k3 ?k4 ?k5 ?k6 ?_ ?k7; (case k1 => k_asm); (case k2 => k_mem); (case k3 => (first | assumption | exact forall_set (by assumption) (by assumption) | exact forall_set (forall_set (by assumption) (by assumption)) (by assumption))); (case k4 => omega); (case k5 => (try simp only [List.length_set]); omega); (case k6 => (try simp only [List.length_set]); omega); (case k7 => with_unfolding_all rfl)); intro x' hP' hx' hxe'))) | ((with_reducible show wpAny _ _ (execs (_ :: _) _) _ _ _); with_reducible ((refine execs_cut ?_; intro _ _))) | ((with_reducible show wpAny _ _ (callWith _ (Value.ref _) _ _ _) _ _ _); with_reducible ((k_here; k_dflt (first | (refine' callWith_K ?k1 ?k2 ?_; (case k1 => k_asm); (case k2 => k_is); k_whole) | (refine' callWith_K0 ?k1 ?k2 ?_; (case k1 => k_in); (case k2 => k_is); k_whole))))) | ((with_reducible show wpAny _ _ (binaryOp .Mult (Value.int _ _) (Value.float _ _)) _ _ _); with_reducible ((k_here; k_dflt (refine' mulif_safe ?k1 ?_; (case k1 => omega); k_whole)))) | ((with_reducible show wpAny _ _ (binaryOp .Mult (Value.float _ _) (Value.int _ _)) _ _ _); with_reducible ((k_here; k_dflt (refine' mulfi_safe ?k1 ?_; (case k1 => omega); k_whole)))) | ((with_reducible show wpAny _ _ (binaryOp .Mod (Value.float _ _) (Value.float _ _)) _ _ _); with_reducible ((k_here; k_dflt (refine' fmod_safe ?k1 ?k2 ?_; (case k1 => with_unfolding_all rfl); (case k2 => decide +kernel); k_whole)))) | ((with_reducible show wpAny _ _ (binaryOp .Div (Value.float _ _) (Value.float _ _)) _ _ _); with_reducible ((k_here; k_dflt (refine' fdiv_safe ?k1 ?k2 ?_; (case k1 => with_unfolding_all rfl); (case k2 => decide +kernel); k_whole)))) | ((with_reducible show wpAny _ _ (binaryOp .Div (Value.int _ _) (Value.int _ _)) _ _ _); with_reducible ((k_here; k_dflt (refine' div_safe ?k1 ?k2 ?k3 ?_; (case k1 => with_unfolding_all rfl); (case k2 => omega); (case k3 => omega); k_whole)))) | ((with_reducible show wpAny _ _ (call (Value.builtin "min") _) _ _ _); with_reducible ((k_here; (with_reducible show wpAny _ _ (call (Value.builtin _) [Value.int _ _, Value.int _ _, Value.int _ _]) _ _ _); k_dflt (refine' min3_N ?k1 ?k2 ?k3 ?_; (case k1 => with_unfolding_all rfl); (case k2 => k_asm); (case k3 => k_asm); k_whole); intro h' tk' tt' F' N'; (try k_sweep)))) | ((with_reducible show wpAny _ _ (call (Value.builtin "max") _) _ _ _); with_reducible ((k_here; (with_reducible show wpAny _ _ (call (Value.builtin _) [Value.int _ _, Value.int _ _, Value.int _ _]) _ _ _); k_dflt (refine' max3_N ?k1 ?k2 ?k3 ?_; (case k1 => with_unfolding_all rfl); (case k2 => k_asm); (case k3 => k_asm); k_whole); intro h' tk' tt' F' N'; (try k_sweep)))) | walk1 | dsimp only | (leave1; walk_say "STEP leave1"; try dsimp only) | fail "no step"))
  rename _[_]? = some _ => hy
  refine hret _ _ _ _ (by k_asm) (by k_asm) ⟨⟨_, hy, rfl⟩, rfl⟩
end

section
local macro_rules | `(tactic| walk_at "mine pad") => `(tactic| skip)
local macro_rules | `(tactic| k_all) => `(tactic| assumption)
theorem heapify_con (w : World) (mean : ExcName → Option Value) (mg mb : Str → Option Value) (l : Addr) (xs : List Addr) (e : Nat) (ka kb : Addr → Int) (rest : List (Addr × Obj))
   (hne : ∀ q ∈ rest, q.1 ≠ l) (hit : ∀ x ∈ xs, IT rest ka kb x) (hlen : xs.length ≤ 8) :
   Con w mean mg mb 49 ((l, listOf (refs xs) e) :: rest) [.ref l] 3
     (fun news' v => v = .none ∧ news' = (l, listOf (refs (heapL (kx ka kb) xs)) e) :: rest) := by
  unfold Con; k_fill
  intro pr ls dp un gd cn cs a ccd cl outer A₀ base h₀ L m s Q E B F X N T hk hd hu hret
  have hm : Int.fdiv xs.length 2 = ((xs.length / 2 : Nat) : Int) := by rw [Int.fdiv_eq_ediv_of_nonneg _ (by omega)]; omega
  ((refine wpAny_call ?_; k_dflt ktr_enter; refine acut ?_; intro _))
  (repeat' ((fail_if_success (with_reducible show wpAny _ _ (exec (Stmt.While _ _ _ _) _) _ _ _)); (fail_if_success (with_reducible show wpAny _ _ (exec (Stmt.For _ _ _ _ _) _) _ _ _)); (fail_if_success (with_reducible show codeAny _ _ (Code.forLoop _ _ _ _ _) _ _)); first | (k_unfold; (try dsimp only)) | (k_end; wrow_close) | ((with_reducible show wpAny _ _ (pyIter (Value.ref _)) _ _ _); with_reducible ((k_here; k_dflt (refine' iter_ri ?k1 ?_; (case k1 => exact News.get (by k_asm) (by k_mem)); k_whole)))) | ((with_reducible show wpAny _ _ (call (Value.type "reversed") _) _ _ _); with_reducible ((k_here; (with_reducible show wpAny _ _ (call _ [Value.ref _]) _ _ _); k_dflt (refine' rev_N ?k1 ?k2 ?k3 ?k4 ?_; (case k1 => k_asm); (case k2 => k_asm); (case k3 => k_mem); (case k4 => omega)); intro D' h' F' N' l1; (try k_lt l1)))) | ((with_reducible show wpAny _ _ (call (Value.type "range") _) _ _ _); with_reducible ((k_here; (with_reducible show wpAny _ _ (call _ [Value.int _ _]) _ _ _); k_dflt (refine' range_N ?k1 ?k2 ?_; (case k1 => k_asm); (case k2 => k_asm)); intro D' h' tk' t1' t2' t3' F' N' l1; (try k_lt l1)))) | (with_reducible ((k_here; (with_reducible show wpAny _ _ (call (Value.ref 63) _) _ _ _); k_dflt (refine' (up_conI _ _ _ _ _ _ _ _ _ _ _ _ ?ka ?kb ?kc ?ke) _ _ _ _ _ _ _ _ _ _ _ _ _ _ _ _ _ _ _ ?k1 ?k2 ?k3 ?k4 ?k5 ?kK ?kd ?ku ?_; (((case k1 => first | k_asm | ktn_no "the frames below"); (case k2 => first | k_asm | ktn_no "the frame"); (case k3 => first | k_asm | ktn_no "the written part"); (case k4 => first | k_asm | ktn_no "the ledger"); (case k5 => first | k_asm | ktn_no "the top"); (case kK => first | exact rfl | assumption | ktn_no "no def"); (case kd => first | ktr_room | ktn_no "the room"); (case ku => first | ktr_units | ktn_no "the units"))); (case ka => assumption); (case kb => (first | assumption | exact forall_set (by assumption) (by assumption) | exact forall_set (forall_set (by assumption) (by assumption)) (by assumption))); (case kc => (try simp only [List.length_set]); omega); (case ke => (try simp only [List.length_set]); omega)); intro v' news' h' tk' F' N' hr'; obtain ⟨hv', hn'⟩ := hr'; subst hv'; subst hn'))) | (with_reducible ((k_here; (with_reducible show wpAny _ _ (call (Value.ref 56) _) _ _ _); k_dflt (refine' (down_conI _ _ _ _ _ _ _ _ _ _ _ _ _ _ ?ka ?kb ?kc ?kd1 ?ke) _ _ _ _ _ _ _ _ _ _ _ _ _ _ _ _ _ _ _ ?k1 ?k2 ?k3 ?k4 ?k5 ?kK ?kd ?ku ?_; (((case k1 => first | k_asm | ktn_no "the frames below"); (case k2 => first | k_asm | ktn_no "the frame"); (case k3 => first | k_asm | ktn_no "the written part"); (case k4 => first | k_asm | ktn_no "the ledger"); (case k5 => first | k_asm | ktn_no "the top"); (case kK => first | exact rfl | assumption | ktn_no "no def"); (case kd => first | ktr_room | ktn_no "the room"); (case ku => first | ktr_units | ktn_no "the units"))); (case ka => assumption); (case kb => (first | assumption | exact forall_set (by assumption) (by assumption) | exact forall_set (forall_set (by assumption) (by assumption)) (by assumption))); (case kc => (try simp only [List.length_set]); omega); (case kd1 => omega); (case ke => (try simp only [List.length_set]); omega)); intro v' news' h' tk' F' N' hr'; obtain ⟨hv', hn'⟩ := hr'; subst hv'; subst hn'))) | ((with_reducible show wpAny _ _ (truthy (Value.ref _)) _ _ _); with_reducible ((k_here; k_dflt (refine' refs_truthy ?k1 ?k2 ?k3 ?_; (case k1 => k_asm); (case k2 => k_mem); (case k3 => omega)); intro tk'))) | ((with_reducible show wpAny _ _ (call (Value.builtin "list.pop") _) _ _ _); with_reducible ((k_here; (with_reducible show wpAny _ _ (call (Value.builtin _) [Value.ref _]) _ _ _); k_dflt (refine' refs_pop ?k1 ?k2 ?k3 ?k4 ?_; (case k1 => k_asm); (case k2 => k_asm); (case k4 => k_upd); (case k3 => omega)); intro h' F' N'))) | ((with_reducible show wpAny _ _ (call (Value.builtin "list.append") _) _ _ _); with_reducible ((k_here; (with_reducible show wpAny _ _ (call (Value.builtin _) [Value.ref _, Value.ref _]) _ _ _); k_dflt (refine' refs_append ?k1 ?k2 ?k3 ?k4 ?_; (case k1 => k_asm); (case k2 => k_asm); (case k4 => k_upd); (case k3 => omega)); intro h' F' N'))) | ((with_reducible show wpAny _ _ (call (Value.builtin "len") _) _ _ _); with_reducible ((k_here; (with_reducible show wpAny _ _ (call _ [Value.ref _]) _ _ _); k_dflt (refine' refs_len ?k1 ?k2 ?k3 ?_; (case k1 => k_asm); (case k2 => k_mem); (case k3 => omega); k_whole)))) | ((with_reducible show wpAny _ _ (binaryOp .RShift (Value.int _ _) (Value.int _ _)) _ _ _); with_reducible ((k_here; k_dflt (refine' wpAny_rshift1_int ?k1 ?_; (case k1 => omega); k_whole)))) | (with_reducible ((k_here; (with_reducible show wpAny _ _ (compareOp _ (Value.ref _) (Value.ref _)) _ _ _); k_dflt (refine' item_ltP ?k1 ?k2 ?k3 ?k4 ?k5 ?_; (case k1 => k_asm); (case k2 => assumption); (case k3 => assumption); (case k4 => ((intro p hp; first | exact hp | exact List.Mem.tail _ hp | exact List.Mem.tail _ (List.Mem.tail _ hp) | exact List.Mem.tail _ (List.Mem.tail _ (List.Mem.tail _ hp))))); (case k5 => ktr_units); k_whole)))) | ((with_reducible show wpAny _ _ (setItem (Value.ref _) (Value.int _ _) _) _ _ _); with_reducible ((k_here; (with_reducible show wpAny _ _ (setItem (Value.ref _) (Value.int _ _) (Value.ref _)) _ _ _); k_dflt (refine' refs_set ?k1 ?k2 ?k3 ?k4 ?k5 ?k6 ?_; (case k1 => k_asm); (case k2 => k_asm); (case k6 => k_upd); (case k3 => omega); (case k4 => (try simp only [List.length_set]); omega); (case k5 => (try simp only [List.length_set]); omega)); intro h' F' N'))) | (with_reducible ((k_here; (with_reducible show wpAny _ _ (subscriptTail _ _ (Value.ref _) (Value.int _ _)) _ _ _); k_dflt (refine' refs_itemP ?k1 ?k2 ?k3 ?k4 ?k5 ?k6 ?_ ?k7; (case k1 => k_asm); (case k2 => k_mem); (case k3 => (first | assumption | exact forall_set (by assumption) (by assumption) | exact forall_set (forall_set (by assumption) (by assumption)) (by assumption))); (case k4 => omega); (case k5 => (try simp only [List.length_set]); omega); (case k6 => (try simp only [List.length_set]); omega); (case k7 => with_unfolding_all rfl)); intro x' hP' hx' hxe'))) | ((with_reducible show wpAny _ _ (execs (_ :: _) _) _ _ _); with_reducible ((refine execs_cut ?_; intro _ _))) | ((with_reducible show wpAny _ _ (callWith _ (Value.ref _) _ _ _) _ _ _); with_reducible ((k_here; k_dflt (first | (refine' callWith_K ?k1 ?k2 ?_; (case k1 => k_asm); (case k2 => k_is); k_whole) | (refine' callWith_K0 ?k1 ?k2 ?_; (case k1 => k_in); (case k2 => k_is); k_whole))))) | ((with_reducible show wpAny _ _ (binaryOp .Mult (Value.int _ _) (Value.float _ _)) _ _ _); with_reducible ((k_here; k_dflt (refine' mulif_safe ?k1 ?_; (case k1 => omega); k_whole)))) | ((with_reducible show wpAny _ _ (binaryOp .Mult (Value.float _ _) (Value.int _ _)) _ _ _); with_reducible ((k_here; k_dflt (refine' mulfi_safe ?k1 ?_; (case k1 => omega); k_whole)))) | ((with_reducible show wpAny _ _ (binaryOp .Mod (Value.float _ _) (Value.float _ _)) _ _ _); with_reducible ((k_here; k_dflt (refine' fmod_safe ?k1 ?k2 ?_; (case k1 => with_unfolding_all rfl); (case k2 => decide +kernel); k_whole)))) | ((with_reducible show wpAny _ _ (binaryOp .Div (Value.float _ _) (Value.float _ _)) _ _ _); with_reducible ((k_here; k_dflt (refine' fdiv_safe ?k1 ?k2 ?_; (case k1 => with_unfolding_all rfl); (case k2 => decide +kernel); k_whole)))) | ((with_reducible show wpAny _ _ (binaryOp .Div (Value.int _ _) (Value.int _ _)) _ _ _); with_reducible ((k_here; k_dflt (refine' div_safe ?k1 ?k2 ?k3 ?_; (case k1 => with_unfolding_all rfl); (case k2 => omega); (case k3 => omega); k_whole)))) | ((with_reducible show wpAny _ _ (call (Value.builtin "min") _) _ _ _); with_reducible ((k_here; (with_reducible show wpAny _ _ (call (Value.builtin _) [Value.int _ _, Value.int _ _, Value.int _ _]) _ _ _); k_dflt (refine' min3_N ?k1 ?k2 ?k3 ?_; (case k1 => with_unfolding_all rfl); (case k2 => k_asm); (case k3 => k_asm); k_whole); intro h' tk' tt' F' N'; (try k_sweep)))) | ((with_reducible show wpAny _ _ (call (Value.builtin "max") _) _ _ _); with_reducible ((k_here; (with_reducible show wpAny _ _ (call (Value.builtin _) [Value.int _ _, Value.int _ _, Value.int _ _]) _ _ _); k_dflt (refine' max3_N ?k1 ?k2 ?k3 ?_; (case k1 => with_unfolding_all rfl); (case k2 => k_asm); (case k3 => k_asm); k_whole); intro h' tk' tt' F' N'; (try k_sweep)))) | walk1 | dsimp only | (leave1; walk_say "STEP leave1"; try dsimp only) | fail "no step"))
  refine wpAny_For ?_
  (repeat' ((fail_if_success (with_reducible show wpAny _ _ (exec (Stmt.While _ _ _ _) _) _ _ _)); (fail_if_success (with_reducible show wpAny _ _ (exec (Stmt.For _ _ _ _ _) _) _ _ _)); (fail_if_success (with_reducible show codeAny _ _ (Code.forLoop _ _ _ _ _) _ _)); first | (k_unfold; (try dsimp only)) | (k_end; wrow_close) | ((with_reducible show wpAny _ _ (pyIter (Value.ref _)) _ _ _); with_reducible ((k_here; k_dflt (refine' iter_ri ?k1 ?_; (case k1 => exact News.get (by k_asm) (by k_mem)); k_whole)))) | ((with_reducible show wpAny _ _ (call (Value.type "reversed") _) _ _ _); with_reducible ((k_here; (with_reducible show wpAny _ _ (call _ [Value.ref _]) _ _ _); k_dflt (refine' rev_N ?k1 ?k2 ?k3 ?k4 ?_; (case k1 => k_asm); (case k2 => k_asm); (case k3 => k_mem); (case k4 => omega)); intro D' h' F' N' l1; (try k_lt l1)))) | ((with_reducible show wpAny _ _ (call (Value.type "range") _) _ _ _); with_reducible ((k_here; (with_reducible show wpAny _ _ (call _ [Value.int _ _]) _ _ _); k_dflt (refine' range_N ?k1 ?k2 ?_; (case k1 => k_asm); (case k2 => k_asm)); intro D' h' tk' t1' t2' t3' F' N' l1; (try k_lt l1)))) | (with_reducible ((k_here; (with_reducible show wpAny _ _ (call (Value.ref 63) _) _ _ _); k_dflt (refine' (up_conI _ _ _ _ _ _ _ _ _ _ _ _ ?ka ?kb ?kc ?ke) _ _ _ _ _ _ _ _ _ _ _ _ _ _ _ _ _ _ _ ?k1 ?k2 ?k3 ?k4 ?k5 ?kK ?kd ?ku ?_; (((case k1 => first | k_asm | ktn_no "the frames below"); (case k2 => first | k_asm | ktn_no "the frame"); (case k3 => first | k_asm | ktn_no "the written part"); (case k4 => first | k_asm | ktn_no "the ledger"); (case k5 => first | k_asm | ktn_no "the top"); (case kK => first | exact rfl | assumption | ktn_no "no def"); (case kd => first | ktr_room | ktn_no "the room"); (case ku => first | ktr_units | ktn_no "the units"))); (case ka => assumption); (case kb => (first | assumption | exact forall_set (by assumption) (by assumption) | exact forall_set (forall_set (by assumption) (by assumption)) (by assumption))); (case kc => (try simp only [List.length_set]); omega); (case ke => (try simp only [List.length_set]); omega)); intro v' news' h' tk' F' N' hr'; obtain ⟨hv', hn'⟩ := hr'; subst hv'; subst hn'))) | (with_reducible ((k_here; (with_reducible show wpAny _ _ (call (Value.ref 56) _) _ _ _); k_dflt (refine' (down_conI _ _ _ _ _ _ _ _ _ _ _ _ _ _ ?ka ?kb ?kc ?kd1 ?ke) _ _ _ _ _ _ _ _ _ _ _ _ _ _ _ _ _ _ _ ?k1 ?k2 ?k3 ?k4 ?k5 ?kK ?kd ?ku ?_; (((case k1 => first | k_asm | ktn_no "the frames below"); (case k2 => first | k_asm | ktn_no "the frame"); (case k3 => first | k_asm | ktn_no "the written part"); (case k4 => first | k_asm | ktn_no "the ledger"); (case k5 => first | k_asm | ktn_no "the top"); (case kK => first | exact rfl | assumption | ktn_no "no def"); (case kd => first | ktr_room | ktn_no "the room"); (case ku => first | ktr_units | ktn_no "the units"))); (case ka => assumption); (case kb => (first | assumption | exact forall_set (by assumption) (by assumption) | exact forall_set (forall_set (by assumption) (by assumption)) (by assumption))); (case kc => (try simp only [List.length_set]); omega); (case kd1 => omega); (case ke => (try simp only [List.length_set]); omega)); intro v' news' h' tk' F' N' hr'; obtain ⟨hv', hn'⟩ := hr'; subst hv'; subst hn'))) | ((with_reducible show wpAny _ _ (truthy (Value.ref _)) _ _ _); with_reducible ((k_here; k_dflt (refine' refs_truthy ?k1 ?k2 ?k3 ?_; (case k1 => k_asm); (case k2 => k_mem); (case k3 => omega)); intro tk'))) | ((with_reducible show wpAny _ _ (call (Value.builtin "list.pop") _) _ _ _); with_reducible ((k_here; (with_reducible show wpAny _ _ (call (Value.builtin _) [Value.ref _]) _ _ _); k_dflt (refine' refs_pop ?k1 ?k2 ?k3 ?k4 ?_; (case k1 => k_asm); (case k2 => k_asm); (case k4 => k_upd); (case k3 => omega)); intro h' F' N'))) | ((with_reducible show wpAny _ _ (call (Value.builtin "list.append") _) _ _ _); with_reducible ((k_here; (with_reducible show wpAny _ _ (call (Value.builtin _) [Value.ref _, Value.ref _]) _ _ _); k_dflt (refine' refs_append ?k1 ?k2 ?k3 ?k4 ?_; (case k1 => k_asm); (case k2 => k_asm); (case k4 => k_upd); (case k3 => omega)); intro h' F' N'))) | ((with_reducible show wpAny _ _ (call (Value.builtin "len") _) _ _ _); with_reducible ((k_here; (with_reducible show wpAny _ _ (call _ [Value.ref _]) _ _ _); k_dflt (refine' refs_len ?k1 ?k2 ?k3 ?_; (case k1 => k_asm); (case k2 => k_mem); (case k3 => omega); k_whole)))) | ((with_reducible show wpAny _ _ (binaryOp .RShift (Value.int _ _) (Value.int _ _)) _ _ _); with_reducible ((k_here; k_dflt (refine' wpAny_rshift1_int ?k1 ?_; (case k1 => omega); k_whole)))) | (with_reducible ((k_here; (with_reducible show wpAny _ _ (compareOp _ (Value.ref _) (Value.ref _)) _ _ _); k_dflt (refine' item_ltP ?k1 ?k2 ?k3 ?k4 ?k5 ?_; (case k1 => k_asm); (case k2 => assumption); (case k3 => assumption); (case k4 => ((intro p hp; first | exact hp | exact List.Mem.tail _ hp | exact List.Mem.tail _ (List.Mem.tail _ hp) | exact List.Mem.tail _ (List.Mem.tail _ (List.Mem.tail _ hp))))); (case k5 => ktr_units); k_whole)))) | ((with_reducible show wpAny _ _ (setItem (Value.ref _) (Value.int _ _) _) _ _ _); with_reducible ((k_here; (with_reducible show wpAny _ _ (setItem (Value.ref _) (Value.int _ _) (Value.ref _)) _ _ _); k_dflt (refine' refs_set ?k1 ?k2 ?k3 ?k4 ?k5 ?k6 ?_; (case k1 => k_asm); (case k2 => k_asm); (case k6 => k_upd); (case k3 => omega); (case k4 => (try simp only [List.length_set]); omega); (case k5 => (try simp only [List.length_set]); omega)); intro h' F' N'))) | (with_reducible ((k_here; (with_reducible show wpAny _ _ (subscriptTail _ _ (Value.ref _) (Value.int _ _)) _ _ _); k_dflt (refine' refs_itemP ?k1 ?k2 ?k3 ?k4 ?k5 ?k6 ?_ ?k7; (case k1 => k_asm); (case k2 => k_mem); (case k3 => (first | assumption | exact forall_set (by assumption) (by assumption) | exact forall_set (forall_set (by assumption) (by assumption)) (by assumption))); (case k4 => omega); (case k5 => (try simp only [List.length_set]); omega); (case k6 => (try simp only [List.length_set]); omega); (case k7 => with_unfolding_all rfl)); intro x' hP' hx' hxe'))) | ((with_reducible show wpAny _ _ (execs (_ :: _) _) _ _ _); with_reducible ((refine execs_cut ?_; intro _ _))) | ((with_reducible show wpAny _ _ (callWith _ (Value.ref _) _ _ _) _ _ _); with_reducible ((k_here; k_dflt (first | (refine' callWith_K ?k1 ?k2 ?_; (case k1 => k_asm); (case k2 => k_is); k_whole) | (refine' callWith_K0 ?k1 ?k2 ?_; (case k1 => k_in); (case k2 => k_is); k_whole))))) | ((with_reducible show wpAny _ _ (binaryOp .Mult (Value.int _ _) (Value.float _ _)) _ _ _); with_reducible ((k_here; k_dflt (refine' mulif_safe ?k1 ?_; (case k1 => omega); k_whole)))) | ((with_reducible show wpAny _ _ (binaryOp .Mult (Value.float _ _) (Value.int _ _)) _ _ _); with_reducible ((k_here; k_dflt (refine' mulfi_safe ?k1 ?_; (case k1 => omega); k_whole)))) | ((with_reducible show wpAny _ _ (binaryOp .Mod (Value.float _ _) (Value.float _ _)) _ _ _); with_reducible ((k_here; k_dflt (refine' fmod_safe ?k1 ?k2 ?_; (case k1 => with_unfolding_all rfl); (case k2 => decide +kernel); k_whole)))) | ((with_reducible show wpAny _ _ (binaryOp .Div (Value.float _ _) (Value.float _ _)) _ _ _); with_reducible ((k_here; k_dflt (refine' fdiv_safe ?k1 ?k2 ?_; (case k1 => with_unfolding_all rfl); (case k2 => decide +kernel); k_whole)))) | ((with_reducible show wpAny _ _ (binaryOp .Div (Value.int _ _) (Value.int _ _)) _ _ _); with_reducible ((k_here; k_dflt (refine' div_safe ?k1 ?k2 ?k3 ?_; (case k1 => with_unfolding_all rfl); (case k2 => omega); (case k3 => omega); k_whole)))) | ((with_reducible show wpAny _ _ (call (Value.builtin "min") _) _ _ _); with_reducible ((k_here; (with_reducible show wpAny _ _ (call (Value.builtin _) [Value.int _ _, Value.int _ _, Value.int _ _]) _ _ _); k_dflt (refine' min3_N ?k1 ?k2 ?k3 ?_; (case k1 => with_unfolding_all rfl); (case k2 => k_asm); (case k3 => k_asm); k_whole); intro h' tk' tt' F' N'; (try k_sweep)))) | ((with_reducible show wpAny _ _ (call (Value.builtin "max") _) _ _ _); with_reducible ((k_here; (with_reducible show wpAny _ _ (call (Value.builtin _) [Value.int _ _, Value.int _ _, Value.int _ _]) _ _ _); k_dflt (refine' max3_N ?k1 ?k2 ?k3 ?_; (case k1 => with_unfolding_all rfl); (case k2 => k_asm); (case k3 => k_asm); k_whole); intro h' tk' tt' F' N'; (try k_sweep)))) | walk1 | dsimp only | (leave1; walk_say "STEP leave1"; try dsimp only) | fail "no step"))
  obtain ⟨I, hI9⟩ : ∃ I, I = D' := ⟨_, rfl⟩
  subst hI9
  have F1 := F'
  have N1 := N'
  clear F' N'
  have hIr := ne_of_AllLt l1.2.2
  have hIl : (l : Nat) ≠ I := Nat.ne_of_lt l1.2.1
  have N2 := swap2 (drop2 N1)
  clear N1
  have hne2 : ∀ o : Obj, ∀ q ∈ (I, o) :: rest, q.1 ≠ l := fun o => ne_cons (Ne.symm hIl) hne
  refine for_own (fun n m1 news1 => ∃ (m' : Str → Option Value) (ys : List Addr) (i' j' : Int), m1 = (fun y => if y = Str.ofString "x" then some (.ref l) else m' y) ∧ i' = (n : Int) - 1 ∧ j' = n ∧
      news1 = (l, listOf (refs ys) e) :: (I, riO i' j' (-1)) :: rest ∧ (∀ x ∈ ys, IT rest ka kb x) ∧ ys.length = xs.length ∧ n ≤ xs.length / 2 ∧ hfy (kx ka kb) n ys = heapL (kx ka kb) xs)
    F1 N2 (n₀ := xs.length / 2) ⟨_, xs, _, _, pins1 rfl, by rw [hm]; omega, by rw [hm]; omega, rfl, hit, rfl, Nat.le_refl _, rfl⟩ ?_ (by passes_own) (by intro _; rfl)
  clear F1 N2
  intro n m1 news1 h1 tk1 F2 N2 J W9
  obtain ⟨m', ys, i', j', rfl, hi', hj', rfl, hit', hlen', hn, hf⟩ := J
  by_cases h0 : n = 0
  · refine next_ri_end rfl F2 (swap2 N2) (ne_cons hIl hIr) (by omega) ?_
    intro h3 F3 N3
    subst h0
    dsimp only
    clear F2 N2
    (repeat' ((fail_if_success (with_reducible show wpAny _ _ (exec (Stmt.While _ _ _ _) _) _ _ _)); (fail_if_success (with_reducible show wpAny _ _ (exec (Stmt.For _ _ _ _ _) _) _ _ _)); (fail_if_success (with_reducible show codeAny _ _ (Code.forLoop _ _ _ _ _) _ _)); first | (k_unfold; (try dsimp only)) | (k_end; wrow_close) | ((with_reducible show wpAny _ _ (pyIter (Value.ref _)) _ _ _); with_reducible ((k_here; k_dflt (refine' iter_ri ?k1 ?_; (case k1 => exact News.get (by k_asm) (by k_mem)); k_whole)))) | ((with_reducible show wpAny _ _ (call (Value.type "reversed") _) _ _ _); with_reducible ((k_here; (with_reducible show wpAny _ _ (call _ [Value.ref _]) _ _ _); k_dflt (refine' rev_N ?k1 ?k2 ?k3 ?k4 ?_; (case k1 => k_asm); (case k2 => k_asm); (case k3 => k_mem); (case k4 => omega)); intro D' h' F' N' l1; (try k_lt l1)))) | ((with_reducible show wpAny _ _ (call (Value.type "range") _) _ _ _); with_reducible ((k_here; (with_reducible show wpAny _ _ (call _ [Value.int _ _]) _ _ _); k_dflt (refine' range_N ?k1 ?k2 ?_; (case k1 => k_asm); (case k2 => k_asm)); intro D' h' tk' t1' t2' t3' F' N' l1; (try k_lt l1)))) | (with_reducible ((k_here; (with_reducible show wpAny _ _ (call (Value.ref 63) _) _ _ _); k_dflt (refine' (up_conI _ _ _ _ _ _ _ _ _ _ _ _ ?ka ?kb ?kc ?ke) _ _ _ _ _ _ _ _ _ _ _ _ _ _ _ _ _ _ _ ?k1 ?k2 ?k3 ?k4 ?k5 ?kK ?kd ?ku ?_; (((case k1 => first | k_asm | ktn_no "the frames below"); (case k2 => first | k_asm | ktn_no "the frame"); (case k3 => first | k_asm | ktn_no "the written part"); (case k4 => first | k_asm | ktn_no "the ledger"); (case k5 => first | k_asm | ktn_no "the top"); (case kK => first | exact rfl | assumption | ktn_no "no def"); (case kd => first | ktr_room | ktn_no "the room"); (case ku => first | ktr_units | ktn_no "the units"))); (case ka => assumption); (case kb => (first | assumption | exact forall_set (by assumption) (by assumption) | exact forall_set (forall_set (by assumption) (by assumption)) (by assumption))); (case kc => (try simp only [List.length_set]); omega); (case ke => (try simp only [List.length_set]); omega)); intro v' news' h' tk' F' N' hr'; obtain ⟨hv', hn'⟩ := hr'; subst hv'; subst hn'))) | (with_reducible ((k_here; (with_reducible show wpAny _ _ (call (Value.ref 56) _) _ _ _); k_dflt (refine' (down_conI _ _ _ _ _ _ _ _ _ _ _ _ _ _ ?ka ?kb ?kc ?kd1 ?ke) _ _ _ _ _ _ _ _ _ _ _ _ _ _ _ _ _ _ _ ?k1 ?k2 ?k3 ?k4 ?k5 ?kK ?kd ?ku ?_; (((case k1 => first | k_asm | ktn_no "the frames below"); (case k2 => first | k_asm | ktn_no "the frame"); (case k3 => first | k_asm | ktn_no "the written part"); (case k4 => first | k_asm | ktn_no "the ledger"); (case k5 => first | k_asm | ktn_no "the top"); (case kK => first | exact rfl | assumption | ktn_no "no def"); (case kd => first | ktr_room | ktn_no "the room"); (case ku => first | ktr_units | ktn_no "the units"))); (case ka => assumption); (case kb => (first | assumption | exact forall_set (by assumption) (by assumption) | exact forall_set (forall_set (by assumption) (by assumption)) (by assumption))); (case kc => (try simp only [List.length_set]); omega); (case kd1 => omega); (case ke => (try simp only [List.length_set]); omega)); intro v' news' h' tk' F' N' hr'; obtain ⟨hv', hn'⟩ := hr'; subst hv'; subst hn'))) | ((with_reducible show wpAny _ _ (truthy (Value.ref _)) _ _ _); with_reducible ((k_here; k_dflt (refine' refs_truthy ?k1 ?k2 ?k3 ?_; (case k1 => k_asm); (case k2 => k_mem); (case k3 => omega)); intro tk'))) | ((with_reducible show wpAny _ _ (call (Value.builtin "list.pop") _) _ _ _); with_reducible ((k_here; (with_reducible show wpAny _ _ (call (Value.builtin _) [Value.ref _]) _ _ _); k_dflt (refine' refs_pop ?k1 ?k2 ?k3 ?k4 ?_; (case k1 => k_asm); (case k2 => k_asm); (case k4 => k_upd); (case k3 => omega)); intro h' F' N'))) | ((with_reducible show wpAny _ _ (call (Value.builtin "list.append") _) _ _ _); with_reducible ((k_here; (with_reducible show wpAny _ _ (call (Value.builtin _) [Value.ref _, Value.ref _]) _ _ _); k_dflt (refine' refs_append ?k1 ?k2 ?k3 ?k4 ?_; (case k1 => k_asm); (case k2 => k_asm); (case k4 => k_upd); (case k3 => omega)); intro h' F' N'))) | ((with_reducible show wpAny _ _ (call (Value.builtin "len") _) _ _ _); with_reducible ((k_here; (with_reducible show wpAny _ _ (call _ [Value.ref _]) _ _ _); k_dflt (refine' refs_len ?k1 ?k2 ?k3 ?_; (case k1 => k_asm); (case k2 => k_mem); (case k3 => omega); k_whole)))) | ((with_reducible show wpAny _ _ (binaryOp .RShift (Value.int _ _) (Value.int _ _)) _ _ _); with_reducible ((k_here; k_dflt (refine' wpAny_rshift1_int ?k1 ?_; (case k1 => omega); k_whole)))) | (with_reducible ((k_here; (with_reducible show wpAny _ _ (compareOp _ (Value.ref _) (Value.ref _)) _ _ _); k_dflt (refine' item_ltP ?k1 ?k2 ?k3 ?k4 ?k5 ?_; (case k1 => k_asm); (case k2 => assumption); (case k3 => assumption); (case k4 => ((intro p hp; first | exact hp | exact List.Mem.tail _ hp | exact List.Mem.tail _ (List.Mem.tail _ hp) | exact List.Mem.tail _ (List.Mem.tail _ (List.Mem.tail _ hp))))); (case k5 => ktr_units); k_whole)))) | ((with_reducible show wpAny _ _ (setItem (Value.ref _) (Value.int _ _) _) _ _ _); with_reducible ((k_here; (with_reducible show wpAny _ _ (setItem (Value.ref _) (Value.int _ _) (Value.ref _)) _ _ _); k_dflt (refine' refs_set ?k1 ?k2 ?k3 ?k4 ?k5 ?k6 ?_; (case k1 => k_asm); (case k2 => k_asm); (case k6 => k_upd); (case k3 => omega); (case k4 => (try simp only [List.length_set]); omega); (case k5 => (try simp only [List.length_set]); omega)); intro h' F' N'))) | (with_reducible ((k_here; (with_reducible show wpAny _ _ (subscriptTail _ _ (Value.ref _) (Value.int _ _)) _ _ _); k_dflt (refine' refs_itemP ?k1 ?k2 ?k3 ?k4 ?k5 ?k6 ?_ ?k7; (case k1 => k_asm); (case k2 => k_mem); (case k3 => (first | assumption | exact forall_set (by assumption) (by assumption) | exact forall_set (forall_set (by assumption) (by assumption)) (by assumption))); (case k4 => omega); (case k5 => (try simp only [List.length_set]); omega); (case k6 => (try simp only [List.length_set]); omega); (case k7 => with_unfolding_all rfl)); intro x' hP' hx' hxe'))) | ((with_reducible show wpAny _ _ (execs (_ :: _) _) _ _ _); with_reducible ((refine execs_cut ?_; intro _ _))) | ((with_reducible show wpAny _ _ (callWith _ (Value.ref _) _ _ _) _ _ _); with_reducible ((k_here; k_dflt (first | (refine' callWith_K ?k1 ?k2 ?_; (case k1 => k_asm); (case k2 => k_is); k_whole) | (refine' callWith_K0 ?k1 ?k2 ?_; (case k1 => k_in); (case k2 => k_is); k_whole))))) | ((with_reducible show wpAny _ _ (binaryOp .Mult (Value.int _ _) (Value.float _ _)) _ _ _); with_reducible ((k_here; k_dflt (refine' mulif_safe ?k1 ?_; (case k1 => omega); k_whole)))) | ((with_reducible show wpAny _ _ (binaryOp .Mult (Value.float _ _) (Value.int _ _)) _ _ _); with_reducible ((k_here; k_dflt (refine' mulfi_safe ?k1 ?_; (case k1 => omega); k_whole)))) | ((with_reducible show wpAny _ _ (binaryOp .Mod (Value.float _ _) (Value.float _ _)) _ _ _); with_reducible ((k_here; k_dflt (refine' fmod_safe ?k1 ?k2 ?_; (case k1 => with_unfolding_all rfl); (case k2 => decide +kernel); k_whole)))) | ((with_reducible show wpAny _ _ (binaryOp .Div (Value.float _ _) (Value.float _ _)) _ _ _); with_reducible ((k_here; k_dflt (refine' fdiv_safe ?k1 ?k2 ?_; (case k1 => with_unfolding_all rfl); (case k2 => decide +kernel); k_whole)))) | ((with_reducible show wpAny _ _ (binaryOp .Div (Value.int _ _) (Value.int _ _)) _ _ _); with_reducible ((k_here; k_dflt (refine' div_safe ?k1 ?k2 ?k3 ?_; (case k1 => with_unfolding_all rfl); (case k2 => omega); (case k3 => omega); k_whole)))) | ((with_reducible show wpAny _ _ (call (Value.builtin "min") _) _ _ _); with_reducible ((k_here; (with_reducible show wpAny _ _ (call (Value.builtin _) [Value.int _ _, Value.int _ _, Value.int _ _]) _ _ _); k_dflt (refine' min3_N ?k1 ?k2 ?k3 ?_; (case k1 => with_unfolding_all rfl); (case k2 => k_asm); (case k3 => k_asm); k_whole); intro h' tk' tt' F' N'; (try k_sweep)))) | ((with_reducible show wpAny _ _ (call (Value.builtin "max") _) _ _ _); with_reducible ((k_here; (with_reducible show wpAny _ _ (call (Value.builtin _) [Value.int _ _, Value.int _ _, Value.int _ _]) _ _ _); k_dflt (refine' max3_N ?k1 ?k2 ?k3 ?_; (case k1 => with_unfolding_all rfl); (case k2 => k_asm); (case k3 => k_asm); k_whole); intro h' tk' tt' F' N'; (try k_sweep)))) | walk1 | dsimp only | (leave1; walk_say "STEP leave1"; try dsimp only) | fail "no step"))
    refine hret _ _ _ _ (by k_asm) (by k_asm) ⟨rfl, ?_⟩
    rw [← hf]; rfl
  · refine next_ri F2 (swap2 N2) (ne_cons hIl hIr) (by omega) ?_
    intro h3 F3 N3
    have N4 := swap2 N3
    clear F2 N2 N3
    have hit2 : ∀ o : Obj, ∀ x ∈ ys, IT ((I, o) :: rest) ka kb x := fun o x hx => (hit' x hx).mono fun p hp => .tail _ hp
    have hit3 := hit2 (riO (i' + -1) (j' - 1) (-1))
    have hne3 := hne2 (riO (i' + -1) (j' - 1) (-1))
    dsimp only
    (repeat' ((fail_if_success (with_reducible show wpAny _ _ (exec (Stmt.While _ _ _ _) _) _ _ _)); (fail_if_success (with_reducible show wpAny _ _ (exec (Stmt.For _ _ _ _ _) _) _ _ _)); (fail_if_success (with_reducible show codeAny _ _ (Code.forLoop _ _ _ _ _) _ _)); first | (k_unfold; (try dsimp only)) | (k_end; wrow_close) | ((with_reducible show wpAny _ _ (pyIter (Value.ref _)) _ _ _); with_reducible ((k_here; k_dflt (refine' iter_ri ?k1 ?_; (case k1 => exact News.get (by k_asm) (by k_mem)); k_whole)))) | ((with_reducible show wpAny _ _ (call (Value.type "reversed") _) _ _ _); with_reducible ((k_here; (with_reducible show wpAny _ _ (call _ [Value.ref _]) _ _ _); k_dflt (refine' rev_N ?k1 ?k2 ?k3 ?k4 ?_; (case k1 => k_asm); (case k2 => k_asm); (case k3 => k_mem); (case k4 => omega)); intro D' h' F' N' l1; (try k_lt l1)))) | ((with_reducible show wpAny _ _ (call (Value.type "range") _) _ _ _); with_reducible ((k_here; (with_reducible show wpAny _ _ (call _ [Value.int _ _]) _ _ _); k_dflt (refine' range_N ?k1 ?k2 ?_; (case k1 => k_asm); (case k2 => k_asm)); intro D' h' tk' t1' t2' t3' F' N' l1; (try k_lt l1)))) | (with_reducible ((k_here; (with_reducible show wpAny _ _ (call (Value.ref 63) _) _ _ _); k_dflt (refine' (up_conI _ _ _ _ _ _ _ _ _ _ _ _ ?ka ?kb ?kc ?ke) _ _ _ _ _ _ _ _ _ _ _ _ _ _ _ _ _ _ _ ?k1 ?k2 ?k3 ?k4 ?k5 ?kK ?kd ?ku ?_; (((case k1 => first | k_asm | ktn_no "the frames below"); (case k2 => first | k_asm | ktn_no "the frame"); (case k3 => first | k_asm | ktn_no "the written part"); (case k4 => first | k_asm | ktn_no "the ledger"); (case k5 => first | k_asm | ktn_no "the top"); (case kK => first | exact rfl | assumption | ktn_no "no def"); (case kd => first | ktr_room | ktn_no "the room"); (case ku => first | ktr_units | ktn_no "the units"))); (case ka => assumption); (case kb => (first | assumption | exact forall_set (by assumption) (by assumption) | exact forall_set (forall_set (by assumption) (by assumption)) (by assumption))); (case kc => (try simp only [List.length_set]); omega); (case ke => (try simp only [List.length_set]); omega)); intro v' news' h' tk' F' N' hr'; obtain ⟨hv', hn'⟩ := hr'; subst hv'; subst hn'))) | (with_reducible ((k_here; (with_reducible show wpAny _ _ (call (Value.ref 56) _) _ _ _); k_dflt (refine' (down_conI _ _ _ _ _ _ _ _ _ _ _ _ _ _ ?ka ?kb ?kc ?kd1 ?ke) _ _ _ _ _ _ _ _ _ _ _ _ _ _ _ _ _ _ _ ?k1 ?k2 ?k3 ?k4 ?k5 ?kK ?kd ?ku ?_; (((case k1 => first | k_asm | ktn_no "the frames below"); (case k2 => first | k_asm | ktn_no "the frame"); (case k3 => first | k_asm | ktn_no "the written part"); (case k4 => first | k_asm | ktn_no "the ledger"); (case k5 => first | k_asm | ktn_no "the top"); (case kK => first | exact rfl | assumption | ktn_no "no def"); (case kd => first | ktr_room | ktn_no "the room"); (case ku => first | ktr_units | ktn_no "the units"))); (case ka => assumption); (case kb => (first | assumption | exact forall_set (by assumption) (by assumption) | exact forall_set (forall_set (by assumption) (by assumption)) (by assumption))); (case kc => (try simp only [List.length_set]); omega); (case kd1 => omega); (case ke => (try simp only [List.length_set]); omega)); intro v' news' h' tk' F' N' hr'; obtain ⟨hv', hn'⟩ := hr'; subst hv'; subst hn'))) | ((with_reducible show wpAny _ _ (truthy (Value.ref _)) _ _ _); with_reducible ((k_here; k_dflt (refine' refs_truthy ?k1 ?k2 ?k3 ?_; (case k1 => k_asm); (case k2 => k_mem); (case k3 => omega)); intro tk'))) | ((with_reducible show wpAny _ _ (call (Value.builtin "list.pop") _) _ _ _); with_reducible ((k_here; (with_reducible show wpAny _ _ (call (Value.builtin _) [Value.ref _]) _ _ _); k_dflt (refine' refs_pop ?k1 ?k2 ?k3 ?k4 ?_; (case k1 => k_asm); (case k2 => k_asm); (case k4 => k_upd); (case k3 => omega)); intro h' F' N'))) | ((with_reducible show wpAny _ _ (call (Value.builtin "list.append") _) _ _ _); with_reducible ((k_here; (with_reducible show wpAny _ _ (call (Value.builtin _) [Value.ref _, Value.ref _]) _ _ _); k_dflt (refine' refs_append ?k1 ?k2 ?k3 ?k4 ?_; (case k1 => k_asm); (case k2 => k_asm); (case k4 => k_upd); (case k3 => omega)); intro h' F' N'))) | ((with_reducible show wpAny _ _ (call (Value.builtin "len") _) _ _ _); with_reducible ((k_here; (with_reducible show wpAny _ _ (call _ [Value.ref _]) _ _ _); k_dflt (refine' refs_len ?k1 ?k2 ?k3 ?_; (case k1 => k_asm); (case k2 => k_mem); (case k3 => omega); k_whole)))) | ((with_reducible show wpAny _ _ (binaryOp .RShift (Value.int _ _) (Value.int _ _)) _ _ _); with_reducible ((k_here; k_dflt (refine' wpAny_rshift1_int ?k1 ?_; (case k1 => omega); k_whole)))) | (with_reducible ((k_here; (with_reducible show wpAny _ _ (compareOp _ (Value.ref _) (Value.ref _)) _ _ _); k_dflt (refine' item_ltP ?k1 ?k2 ?k3 ?k4 ?k5 ?_; (case k1 => k_asm); (case k2 => assumption); (case k3 => assumption); (case k4 => ((intro p hp; first | exact hp | exact List.Mem.tail _ hp | exact List.Mem.tail _ (List.Mem.tail _ hp) | exact List.Mem.tail _ (List.Mem.tail _ (List.Mem.tail _ hp))))); (case k5 => ktr_units); k_whole)))) | ((with_reducible show wpAny _ _ (setItem (Value.ref _) (Value.int _ _) _) _ _ _); with_reducible ((k_here; (with_reducible show wpAny _ _ (setItem (Value.ref _) (Value.int _ _) (Value.ref _)) _ _ _); k_dflt (refine' refs_set ?k1 ?k2 ?k3 ?k4 ?k5 ?k6 ?_; (case k1 => k_asm); (case k2 => k_asm); (case k6 => k_upd); (case k3 => omega); (case k4 => (try simp only [List.length_set]); omega); (case k5 => (try simp only [List.length_set]); omega)); intro h' F' N'))) | (with_reducible ((k_here; (with_reducible show wpAny _ _ (subscriptTail _ _ (Value.ref _) (Value.int _ _)) _ _ _); k_dflt (refine' refs_itemP ?k1 ?k2 ?k3 ?k4 ?k5 ?k6 ?_ ?k7; (case k1 => k_asm); (case k2 => k_mem); (case k3 => (first | assumption | exact forall_set (by assumption) (by assumption) | exact forall_set (forall_set (by assumption) (by assumption)) (by assumption))); (case k4 => omega); (case k5 => (try simp only [List.length_set]); omega); (case k6 => (try simp only [List.length_set]); omega); (case k7 => with_unfolding_all rfl)); intro x' hP' hx' hxe'))) | ((with_reducible show wpAny _ _ (execs (_ :: _) _) _ _ _); with_reducible ((refine execs_cut ?_; intro _ _))) | ((with_reducible show wpAny _ _ (callWith _ (Value.ref _) _ _ _) _ _ _); with_reducible ((k_here; k_dflt (first | (refine' callWith_K ?k1 ?k2 ?_; (case k1 => k_asm); (case k2 => k_is); k_whole) | (refine' callWith_K0 ?k1 ?k2 ?_; (case k1 => k_in); (case k2 => k_is); k_whole))))) | ((with_reducible show wpAny _ _ (binaryOp .Mult (Value.int _ _) (Value.float _ _)) _ _ _); with_reducible ((k_here; k_dflt (refine' mulif_safe ?k1 ?_; (case k1 => omega); k_whole)))) | ((with_reducible show wpAny _ _ (binaryOp .Mult (Value.float _ _) (Value.int _ _)) _ _ _); with_reducible ((k_here; k_dflt (refine' mulfi_safe ?k1 ?_; (case k1 => omega); k_whole)))) | ((with_reducible show wpAny _ _ (binaryOp .Mod (Value.float _ _) (Value.float _ _)) _ _ _); with_reducible ((k_here; k_dflt (refine' fmod_safe ?k1 ?k2 ?_; (case k1 => with_unfolding_all rfl); (case k2 => decide +kernel); k_whole)))) | ((with_reducible show wpAny _ _ (binaryOp .Div (Value.float _ _) (Value.float _ _)) _ _ _); with_reducible ((k_here; k_dflt (refine' fdiv_safe ?k1 ?k2 ?_; (case k1 => with_unfolding_all rfl); (case k2 => decide +kernel); k_whole)))) | ((with_reducible show wpAny _ _ (binaryOp .Div (Value.int _ _) (Value.int _ _)) _ _ _); with_reducible ((k_here; k_dflt (refine' div_safe ?k1 ?k2 ?k3 ?_; (case k1 => with_unfolding_all rfl); (case k2 => omega); (case k3 => omega); k_whole)))) | ((with_reducible show wpAny _ _ (call (Value.builtin "min") _) _ _ _); with_reducible ((k_here; (with_reducible show wpAny _ _ (call (Value.builtin _) [Value.int _ _, Value.int _ _, Value.int _ _]) _ _ _); k_dflt (refine' min3_N ?k1 ?k2 ?k3 ?_; (case k1 => with_unfolding_all rfl); (case k2 => k_asm); (case k3 => k_asm); k_whole); intro h' tk' tt' F' N'; (try k_sweep)))) | ((with_reducible show wpAny _ _ (call (Value.builtin "max") _) _ _ _); with_reducible ((k_here; (with_reducible show wpAny _ _ (call (Value.builtin _) [Value.int _ _, Value.int _ _, Value.int _ _]) _ _ _); k_dflt (refine' max3_N ?k1 ?k2 ?k3 ?_; (case k1 => with_unfolding_all rfl); (case k2 => k_asm); (case k3 => k_asm); k_whole); intro h' tk' tt' F' N'; (try k_sweep)))) | walk1 | dsimp only | (leave1; walk_say "STEP leave1"; try dsimp only) | fail "no step"))
    obtain ⟨k, rfl⟩ : ∃ k, n = k + 1 := ⟨n - 1, by omega⟩
    have ei : i'.toNat = k := by omega
    rename Fr _ _ _ _ => F5
    rename News _ _ _ _ => N5
    rw [ei] at N5
    exact ⟨_, _, _, _, k, rfl, F5, N5, by omega, _, up (kx ka kb) ys k, _, _, pins1 rfl, by omega, by omega, rfl, up_mem hit', by rw [up_len, hlen'], by omega, hf⟩
end

section
local macro_rules | `(tactic| k_mem) => `(tactic| first | assumption | exact List.Mem.tail _ (by assumption) | exact List.Mem.tail _ (List.Mem.tail _ (by assumption)))
theorem sort2_N {w : World} {A : Around} {E : Value → Shared → Prop} {s : Shared} {h₀ : Heap} {L l x y x1 y1 : Addr} {m : Str → Option Value} {news : List (Addr × Obj)} {a b c d : Int} {t1 t2 t3 t4 t5 t6 : Tok} {n n1 n2 n3 n4 : Nat} {Q : Value → Shared → Prop}
    (hh : A.handled = none) (hu : A.units + 10 < cLine) (F : Fr h₀ L s.heap m) (N : News h₀ L s.heap news) (hl : (l, listOf #[.ref x, .ref y] n) ∈ news)
    (mx : (x, pairO (.int (nrm a b) t1) (.ref x1) n1) ∈ news) (mx1 : (x1, pairO (.int a t2) (.int b t3) n2) ∈ news)
    (my : (y, pairO (.int (nrm c d) t4) (.ref y1) n3) ∈ news) (my1 : (y1, pairO (.int c t5) (.int d t6) n4) ∈ news)
    (h : ∀ D h' tk' lo hi e1, Fr h₀ L h' m → News h₀ L h' ((D, listOf #[.ref lo, .ref hi] e1) :: news) → (∀ q ∈ news, q.1 < D) → ((lo = x ∧ hi = y ∧ nrm a b ≤ nrm c d) ∨ (lo = y ∧ hi = x ∧ nrm c d ≤ nrm a b)) → Q (.ref D) { s with heap := h', toks := tk' }) :
    wpAny (model PySem.Challenge.rw_pg0139_01.row.prog w) A (call (.builtin "sorted") [.ref l]) Q E s := by
  have hL : s.heap.IsList l ([Value.ref x, Value.ref y] : List Value).toArray := PySem.IsL.isList (n := n) (N.get hl)
  refine kat_sorted (vs := [.ref x, .ref y]) F N hL (Nat.le_refl 2) (show 2 < 64 by decide) ?_
  intro D e1 h' F1 N1 l1
  have l2 : ∀ q ∈ news, q.1 ≠ D := fun q hq => Nat.ne_of_lt (l1 q hq)
  refine' kat_kind ?t ?n ?T ?e ?_; (case t => kat_tups); (case n => exact Nat.le_of_ble_eq_true rfl); (case T => kas_types); (case e => exact rfl); 
  walk_at "kasWp"
  have gx := N1.get (.tail _ mx)
  have gy := N1.get (.tail _ my)
  have gx1 := N1.get (.tail _ mx1)
  have gy1 := N1.get (.tail _ my1)
  have u1 : A.in1.in1.units = A.units + 2 := rfl
  refine wpAny_mono (show wpAny _ _ _ (fun (bb : Bool) s' => s' = { s with heap := h' } ∧ (bb = true → nrm c d ≤ nrm a b) ∧ (bb = false → nrm a b ≤ nrm c d)) _ _ from ?_) ?nx (fun _ _ e => e)
  · refine kat_lt gy rfl gx rfl ?_
    refine kat_cons (wpAny_eqBool_int ?_)
    refine kat_go (fun hk => ?_) (fun hk => ?_)
    · have e : nrm c d = nrm a b := by simpa using hk
      refine kat_yes (kat_cons (wpAny_eqBool_tuple (by omega) (isKey2 gy1) (isKey2 gx1) ?_))
      refine kat_go (fun hk => ?_) (fun hk => ?_)
      · exact kat_yes (kat_nil ⟨rfl, fun _ => by omega, fun _ => by omega⟩)
      · refine kat_no (kat_one _ _ (ints_lt gy1 gx1 (by omega) ?_))
        exact ⟨rfl, fun _ => by omega, fun _ => by omega⟩
    · have e : nrm c d ≠ nrm a b := by simpa using hk
      refine kat_no (oneLt_int ?_)
      exact ⟨rfl, fun q => by have := of_decide_eq_true q; omega, fun q => by have := of_decide_eq_false q; omega⟩
  case nx =>
    rintro bb _ ⟨rfl, q1, q2⟩
    cases bb with
    | true =>
      have q := q1 rfl
      clear q1 q2
      (repeat' (first | (k_unfold; (try dsimp only)) | (k_end; wrow_close) | ((with_reducible show wpAny _ _ (execs (_ :: _) _) _ _ _); with_reducible ((refine execs_cut ?_; intro _ _))) | ((with_reducible show wpAny _ _ (callWith _ (Value.ref _) _ _ _) _ _ _); with_reducible ((k_here; k_dflt (first | (refine' callWith_K ?k1 ?k2 ?_; (case k1 => k_asm); (case k2 => k_is); k_whole) | (refine' callWith_K0 ?k1 ?k2 ?_; (case k1 => k_in); (case k2 => k_is); k_whole))))) | ((with_reducible show wpAny _ _ (binaryOp .Mult (Value.int _ _) (Value.float _ _)) _ _ _); with_reducible ((k_here; k_dflt (refine' mulif_safe ?k1 ?_; (case k1 => omega); k_whole)))) | ((with_reducible show wpAny _ _ (binaryOp .Mult (Value.float _ _) (Value.int _ _)) _ _ _); with_reducible ((k_here; k_dflt (refine' mulfi_safe ?k1 ?_; (case k1 => omega); k_whole)))) | ((with_reducible show wpAny _ _ (binaryOp .Mod (Value.float _ _) (Value.float _ _)) _ _ _); with_reducible ((k_here; k_dflt (refine' fmod_safe ?k1 ?k2 ?_; (case k1 => with_unfolding_all rfl); (case k2 => decide +kernel); k_whole)))) | ((with_reducible show wpAny _ _ (binaryOp .Div (Value.float _ _) (Value.float _ _)) _ _ _); with_reducible ((k_here; k_dflt (refine' fdiv_safe ?k1 ?k2 ?_; (case k1 => with_unfolding_all rfl); (case k2 => decide +kernel); k_whole)))) | ((with_reducible show wpAny _ _ (binaryOp .Div (Value.int _ _) (Value.int _ _)) _ _ _); with_reducible ((k_here; k_dflt (refine' div_safe ?k1 ?k2 ?k3 ?_; (case k1 => with_unfolding_all rfl); (case k2 => omega); (case k3 => omega); k_whole)))) | ((with_reducible show wpAny _ _ (call (Value.builtin "min") _) _ _ _); with_reducible ((k_here; (with_reducible show wpAny _ _ (call (Value.builtin _) [Value.int _ _, Value.int _ _, Value.int _ _]) _ _ _); k_dflt (refine' min3_N ?k1 ?k2 ?k3 ?_; (case k1 => with_unfolding_all rfl); (case k2 => k_asm); (case k3 => k_asm); k_whole); intro h' tk' tt' F' N'; (try k_sweep)))) | ((with_reducible show wpAny _ _ (call (Value.builtin "max") _) _ _ _); with_reducible ((k_here; (with_reducible show wpAny _ _ (call (Value.builtin _) [Value.int _ _, Value.int _ _, Value.int _ _]) _ _ _); k_dflt (refine' max3_N ?k1 ?k2 ?k3 ?_; (case k1 => with_unfolding_all rfl); (case k2 => k_asm); (case k3 => k_asm); k_whole); intro h' tk' tt' F' N'; (try k_sweep)))) | walk1 | dsimp only | (leave1; walk_say "STEP leave1"; try dsimp only)))
      rename Fr _ _ _ _ => F2
      rename News _ _ _ _ => N2
      exact h D _ _ y x _ F2 N2 l1 (Or.inr ⟨rfl, rfl, q⟩)
    | false =>
      have q := q2 rfl
      clear q1 q2
      (repeat' (first | (k_unfold; (try dsimp only)) | (k_end; wrow_close) | ((with_reducible show wpAny _ _ (execs (_ :: _) _) _ _ _); with_reducible ((refine execs_cut ?_; intro _ _))) | ((with_reducible show wpAny _ _ (callWith _ (Value.ref _) _ _ _) _ _ _); with_reducible ((k_here; k_dflt (first | (refine' callWith_K ?k1 ?k2 ?_; (case k1 => k_asm); (case k2 => k_is); k_whole) | (refine' callWith_K0 ?k1 ?k2 ?_; (case k1 => k_in); (case k2 => k_is); k_whole))))) | ((with_reducible show wpAny _ _ (binaryOp .Mult (Value.int _ _) (Value.float _ _)) _ _ _); with_reducible ((k_here; k_dflt (refine' mulif_safe ?k1 ?_; (case k1 => omega); k_whole)))) | ((with_reducible show wpAny _ _ (binaryOp .Mult (Value.float _ _) (Value.int _ _)) _ _ _); with_reducible ((k_here; k_dflt (refine' mulfi_safe ?k1 ?_; (case k1 => omega); k_whole)))) | ((with_reducible show wpAny _ _ (binaryOp .Mod (Value.float _ _) (Value.float _ _)) _ _ _); with_reducible ((k_here; k_dflt (refine' fmod_safe ?k1 ?k2 ?_; (case k1 => with_unfolding_all rfl); (case k2 => decide +kernel); k_whole)))) | ((with_reducible show wpAny _ _ (binaryOp .Div (Value.float _ _) (Value.float _ _)) _ _ _); with_reducible ((k_here; k_dflt (refine' fdiv_safe ?k1 ?k2 ?_; (case k1 => with_unfolding_all rfl); (case k2 => decide +kernel); k_whole)))) | ((with_reducible show wpAny _ _ (binaryOp .Div (Value.int _ _) (Value.int _ _)) _ _ _); with_reducible ((k_here; k_dflt (refine' div_safe ?k1 ?k2 ?k3 ?_; (case k1 => with_unfolding_all rfl); (case k2 => omega); (case k3 => omega); k_whole)))) | ((with_reducible show wpAny _ _ (call (Value.builtin "min") _) _ _ _); with_reducible ((k_here; (with_reducible show wpAny _ _ (call (Value.builtin _) [Value.int _ _, Value.int _ _, Value.int _ _]) _ _ _); k_dflt (refine' min3_N ?k1 ?k2 ?k3 ?_; (case k1 => with_unfolding_all rfl); (case k2 => k_asm); (case k3 => k_asm); k_whole); intro h' tk' tt' F' N'; (try k_sweep)))) | ((with_reducible show wpAny _ _ (call (Value.builtin "max") _) _ _ _); with_reducible ((k_here; (with_reducible show wpAny _ _ (call (Value.builtin _) [Value.int _ _, Value.int _ _, Value.int _ _]) _ _ _); k_dflt (refine' max3_N ?k1 ?k2 ?k3 ?_; (case k1 => with_unfolding_all rfl); (case k2 => k_asm); (case k3 => k_asm); k_whole); intro h' tk' tt' F' N'; (try k_sweep)))) | walk1 | dsimp only | (leave1; walk_say "STEP leave1"; try dsimp only)))
      rename Fr _ _ _ _ => F2
      rename News _ _ _ _ => N2
      exact h D _ _ x y _ F2 N2 l1 (Or.inl ⟨rfl, rfl, q⟩)
theorem sort2_M {w : World} {A : Around} {E : Value → Shared → Prop} {s : Shared} {h₀ : Heap} {L l x y x1 y1 : Addr} {m : Str → Option Value} {news : List (Addr × Obj)} {a b c d : Int} {t1 t2 t3 t4 t5 t6 : Tok} {n n1 n2 n3 n4 : Nat} {Q : Value → Shared → Prop}
    (hh : A.handled = none) (hu : A.units + 10 < cLine) (F : Fr h₀ L s.heap m) (N : News h₀ L s.heap news) (hl : (l, listOf #[.ref x, .ref y] n) ∈ news)
    (mx : (x, pairO (.int (nrm a b) t1) (.ref x1) n1) ∈ news) (mx1 : (x1, pairO (.int a t2) (.int b t3) n2) ∈ news)
    (my : (y, pairO (.int (nrm c d) t4) (.ref y1) n3) ∈ news) (my1 : (y1, pairO (.int c t5) (.int d t6) n4) ∈ news) (nx : Nm a b) (ny : Nm c d)
    (h : ∀ (D : Addr) (h' : Heap) (tk' : Nat) (lo hi : Addr) (e3 : Nat) (lo1 hi1 : Addr) (a' b' c' d' : Int) (y1 y2 y3 y4 y5 y6 : Tok) (z1 z2 z3 z4 : Nat), Fr h₀ L h' m → News h₀ L h' ((D, listOf #[.ref lo, .ref hi] e3) :: news) → (∀ q ∈ news, q.1 < D) →
       (lo, pairO (.int (nrm a' b') y1) (.ref lo1) z1) ∈ news → (lo1, pairO (.int a' y2) (.int b' y3) z2) ∈ news → (hi, pairO (.int (nrm c' d') y4) (.ref hi1) z3) ∈ news → (hi1, pairO (.int c' y5) (.int d' y6) z4) ∈ news →
       Nm a' b' → Nm c' d' → nrm a' b' ≤ nrm c' d' → ((a' = a ∧ b' = b ∧ c' = c ∧ d' = d) ∨ (a' = c ∧ b' = d ∧ c' = a ∧ d' = b)) → Q (.ref D) { s with heap := h', toks := tk' }) :
    wpAny (model PySem.Challenge.rw_pg0139_01.row.prog w) A (call (.builtin "sorted") [.ref l]) Q E s := by
  refine sort2_N hh hu F N hl mx mx1 my my1 ?_
  intro D h' tk' lo hi e1 F1 N1 l1 hor
  rcases hor with ⟨rfl, rfl, hle⟩ | ⟨rfl, rfl, hle⟩
  · exact h D h' tk' _ _ e1 _ _ _ _ _ _ _ _ _ _ _ _ _ _ _ _ F1 N1 l1 mx mx1 my my1 nx ny hle (Or.inl ⟨rfl, rfl, rfl, rfl⟩)
  · exact h D h' tk' _ _ e1 _ _ _ _ _ _ _ _ _ _ _ _ _ _ _ _ F1 N1 l1 my my1 mx mx1 ny nx hle (Or.inr ⟨rfl, rfl, rfl, rfl⟩)
end

section
open PySem PySem.Spec PySem.Calls PySem.W PyProof.Rows PyProof.Rows.LCg PyProof.Rows.LCt
section
variable {prog : Program} {w : World} {A : Around} {h₀ : Heap} {L : Addr} {m : Str → Option Value} {env : Env} {s : Shared}
theorem compEnd_mono {s₁ : Shared} {I C D : Addr} {oI oC oD : Obj} {S : List (Addr × Obj) → Prop} {r r' : Value → List (Addr × Obj) → Prop} {y : Value} {s₂ : Shared} (h : CompEnd h₀ L m s₁ I oI C oC D oD S r y s₂) (k : ∀ y n, r y n → r' y n) : CompEnd h₀ L m s₁ I oI C oC D oD S r' y s₂ := by
  obtain ⟨h', tk, news', e, F, N, o, S', q⟩ := h
  exact ⟨h', tk, news', e, F, N, o, S', k _ _ q⟩
/-- a comprehension with a test by what holds between its turns -/
theorem CompRestT.ind {ct elt : Expr} {x : Str} {scope : Scope} {cl : List (Str × Addr)} {S : List (Addr × Obj) → Prop} {P : Nat → Value → Prop} {Fin : List Value → List (Addr × Obj) → Prop} (J : Nat → List Value → List (Addr × Obj) → Prop) {n : Nat} {ys₀ : List Value} {news₀ : List (Addr × Obj)}
    (h0 : J 0 ys₀ news₀)
    (step : ∀ i ys news v I oI C oC D m₂ h tk (E' : Value → Shared → Prop), i < n → J i ys news → P i v → NsObj oC m₂ → m₂ x = some v → Fr h₀ L h m → News h₀ L h ((I, oI) :: (C, oC) :: (D, lst ys) :: news) → (∀ p ∈ news, p.1 ≠ I ∧ p.1 ≠ C ∧ p.1 ≠ D) → ((@Ne Nat I C) ∧ (@Ne Nat I D) ∧ (@Ne Nat C D)) →
      wpAny (model prog w) A (isTrue ct (compEnvC scope cl C env) (eval ct (compEnvC scope cl C env))) (fun ok s' => if ok = true then
        wpAny (model prog w) A (eval elt (compEnvC scope cl C env)) (CompEnd h₀ L m { s with heap := h, toks := tk } I oI C oC D (lst ys) S (fun y news' => J (i + 1) (ys ++ [y]) news')) E' s'
        else CompEnd h₀ L m { s with heap := h, toks := tk } I oI C oC D (lst ys) S (fun _ news' => J (i + 1) ys news') Value.none s') E' { s with heap := h, toks := tk })
    (fin : ∀ ys news, J n ys news → Fin ys news) : CompRestT prog w A h₀ L m env ct elt x scope cl s S P Fin n 0 ys₀ news₀ := by
  suffices H : ∀ k i ys news, i + k = n → J i ys news → CompRestT prog w A h₀ L m env ct elt x scope cl s S P Fin k i ys news from H n 0 ys₀ news₀ (Nat.zero_add n) h0
  intro k
  induction k with
  | zero => intro i ys news e hJ; have : i = n := by omega
            subst this; exact CompRestT.zero (fin _ _ hJ)
  | succ k ih =>
    intro i ys news e hJ
    refine CompRestT.succ ?_
    intro v I oI C oC D m₂ h tk E' hv hC hx F N off ne
    refine wpAny_mono (step i ys news v I oI C oC D m₂ h tk E' (by omega) hJ hv hC hx F N (Off3.mem off) ne) (fun ok s' q => ?_) fun _ _ e => e
    split at q
    · rename_i hok
      rw [if_pos hok]
      exact wpAny_mono q (fun y s'' q' => compEnd_mono q' fun y n r => ih (i + 1) _ _ (by omega) r) fun _ _ e => e
    · rename_i hok
      rw [if_neg hok]
      exact compEnd_mono q fun y n r => ih (i + 1) _ _ (by omega) r
theorem CompRest.ind {elt : Expr} {x : Str} {scope : Scope} {cl : List (Str × Addr)} {S : List (Addr × Obj) → Prop} {P : Nat → Value → Prop} {Fin : List Value → List (Addr × Obj) → Prop} (J : Nat → List Value → List (Addr × Obj) → Prop) {n : Nat} {ys₀ : List Value} {news₀ : List (Addr × Obj)}
    (h0 : J 0 ys₀ news₀)
    (step : ∀ i ys news v I oI C oC D m₂ h tk (E' : Value → Shared → Prop), i < n → J i ys news → P i v → NsObj oC m₂ → m₂ x = some v → Fr h₀ L h m → News h₀ L h ((I, oI) :: (C, oC) :: (D, lst ys) :: news) → (∀ p ∈ news, p.1 ≠ I ∧ p.1 ≠ C ∧ p.1 ≠ D) → ((@Ne Nat I C) ∧ (@Ne Nat I D) ∧ (@Ne Nat C D)) →
        wpAny (model prog w) A (eval elt (compEnvC scope cl C env)) (CompEnd h₀ L m { s with heap := h, toks := tk } I oI C oC D (lst ys) S (fun y news' => J (i + 1) (ys ++ [y]) news')) E' { s with heap := h, toks := tk })
    (fin : ∀ ys news, J n ys news → Fin ys news) : CompRest prog w A h₀ L m env elt x scope cl s S P Fin n 0 ys₀ news₀ := by
  suffices H : ∀ k i ys news, i + k = n → J i ys news → CompRest prog w A h₀ L m env elt x scope cl s S P Fin k i ys news from H n 0 ys₀ news₀ (Nat.zero_add n) h0
  intro k
  induction k with
  | zero => intro i ys news e hJ; have : i = n := by omega
            subst this; exact CompRest.zero (fin _ _ hJ)
  | succ k ih =>
    intro i ys news e hJ
    refine CompRest.succ ?_
    intro v I oI C oC D m₂ h tk E' hv hC hx F N off ne
    exact wpAny_mono (step i ys news v I oI C oC D m₂ h tk E' (by omega) hJ hv hC hx F N (Off3.mem off) ne) (fun y s'' q' => compEnd_mono q' fun y n r => ih (i + 1) _ _ (by omega) r) fun _ _ e => e
end

/-- an element that leaves one new object -/
theorem end_one {h₀ : Heap} {L I C D D9 : Addr} {m : Str → Option Value} {s₁ : Shared} {oI oC oD o9 : Obj} {S : List (Addr × Obj) → Prop} {rest : Value → List (Addr × Obj) → Prop} {y : Value} {h' : Heap} {tk : Nat} {r : List (Addr × Obj)}
    (F : Fr h₀ L h' m) (N : News h₀ L h' ((D9, o9) :: (I, oI) :: (C, oC) :: (D, oD) :: r)) (off : Off3 I C D r) (h1 : (@Ne Nat D9 I) ∧ (@Ne Nat D9 C) ∧ (@Ne Nat D9 D)) (hS : S ((D9, o9) :: r)) (k : rest y ((D9, o9) :: r)) :
    CompEnd h₀ L m s₁ I oI C oC D oD S rest y { s₁ with heap := h', toks := tk } :=
  CompEnd.intro F N ((D9, o9) :: r) (by intro x hx; simp only [List.mem_cons] at hx ⊢; rcases hx with h | h | h | h | h <;> simp [h]) ⟨h1, off⟩ hS k
/-- an element that leaves the ledger as it was -/
theorem end_none {h₀ : Heap} {L I C D : Addr} {m : Str → Option Value} {s₁ : Shared} {oI oC oD : Obj} {S : List (Addr × Obj) → Prop} {rest : Value → List (Addr × Obj) → Prop} {y : Value} {h' : Heap} {tk : Nat} {r : List (Addr × Obj)}
    (F : Fr h₀ L h' m) (N : News h₀ L h' ((I, oI) :: (C, oC) :: (D, oD) :: r)) (off : Off3 I C D r) (hS : S r) (k : rest y r) :
    CompEnd h₀ L m s₁ I oI C oC D oD S rest y { s₁ with heap := h', toks := tk } :=
  CompEnd.intro F N r (fun _ h => h) off hS k
end

section
set_option linter.unusedSimpArgs false
open PySem
noncomputable def Hp5 (κ : Addr → Int) : List Addr → Prop
  | [] => True
  | [_] => True
  | [a, b] => κ a ≤ κ b
  | [a, b, c] => κ a ≤ κ b ∧ κ a ≤ κ c
  | [a, b, c, d] => κ a ≤ κ b ∧ κ a ≤ κ c ∧ κ b ≤ κ d
  | [a, b, c, d, e] => κ a ≤ κ b ∧ κ a ≤ κ c ∧ κ b ≤ κ d ∧ κ b ≤ κ e
  | _ => False
/-- the order but for the root -/
noncomputable def HpT (κ : Addr → Int) : List Addr → Prop
  | [_, b, _, d] => κ b ≤ κ d
  | [_, b, _, d, e] => κ b ≤ κ d ∧ κ b ≤ κ e
  | _ => True
/-- the same things over -/
noncomputable def Sm (xs ys : List Addr) : Prop := (∀ x, x ∈ ys ↔ x ∈ xs) ∧ (∀ f : Addr → Nat, (ys.map f).sum = (xs.map f).sum) ∧ ys.length = xs.length
noncomputable def Gd (κ : Addr → Int) (xs ys : List Addr) : Prop := Hp5 κ ys ∧ Sm xs ys
noncomputable def GdT (κ : Addr → Int) (xs ys : List Addr) : Prop := HpT κ ys ∧ Sm xs ys
theorem Sm.trans {xs ys zs : List Addr} (a : Sm xs ys) (b : Sm ys zs) : Sm xs zs := ⟨fun x => (b.1 x).trans (a.1 x), fun f => (b.2.1 f).trans (a.2.1 f), b.2.2.trans a.2.2⟩
theorem Sm.idn (xs : List Addr) : Sm xs xs := ⟨fun _ => Iff.rfl, fun _ => rfl, rfl⟩
theorem pm_ba (a b : Addr) : Sm [a, b] [b, a] := ⟨fun x => by simp only [List.mem_cons, List.not_mem_nil, or_false, or_comm, or_left_comm, or_assoc], fun f => by simp only [List.map_cons, List.map_nil, List.sum_cons, List.sum_nil, Nat.add_comm, Nat.add_left_comm, Nat.add_assoc], rfl⟩
theorem pm_bac (a b c : Addr) : Sm [a, b, c] [b, a, c] := ⟨fun x => by simp only [List.mem_cons, List.not_mem_nil, or_false, or_comm, or_left_comm, or_assoc], fun f => by simp only [List.map_cons, List.map_nil, List.sum_cons, List.sum_nil, Nat.add_comm, Nat.add_left_comm, Nat.add_assoc], rfl⟩
theorem pm_cba (a b c : Addr) : Sm [a, b, c] [c, b, a] := ⟨fun x => by simp only [List.mem_cons, List.not_mem_nil, or_false, or_comm, or_left_comm, or_assoc], fun f => by simp only [List.map_cons, List.map_nil, List.sum_cons, List.sum_nil, Nat.add_comm, Nat.add_left_comm, Nat.add_assoc], rfl⟩
theorem pm_bacd (a b c d : Addr) : Sm [a, b, c, d] [b, a, c, d] := ⟨fun x => by simp only [List.mem_cons, List.not_mem_nil, or_false, or_comm, or_left_comm, or_assoc], fun f => by simp only [List.map_cons, List.map_nil, List.sum_cons, List.sum_nil, Nat.add_comm, Nat.add_left_comm, Nat.add_assoc], rfl⟩
theorem pm_bdca (a b c d : Addr) : Sm [a, b, c, d] [b, d, c, a] := ⟨fun x => by simp only [List.mem_cons, List.not_mem_nil, or_false, or_comm, or_left_comm, or_assoc], fun f => by simp only [List.map_cons, List.map_nil, List.sum_cons, List.sum_nil, Nat.add_comm, Nat.add_left_comm, Nat.add_assoc], rfl⟩
theorem pm_cbad (a b c d : Addr) : Sm [a, b, c, d] [c, b, a, d] := ⟨fun x => by simp only [List.mem_cons, List.not_mem_nil, or_false, or_comm, or_left_comm, or_assoc], fun f => by simp only [List.map_cons, List.map_nil, List.sum_cons, List.sum_nil, Nat.add_comm, Nat.add_left_comm, Nat.add_assoc], rfl⟩
theorem pm_bacde (a b c d e : Addr) : Sm [a, b, c, d, e] [b, a, c, d, e] := ⟨fun x => by simp only [List.mem_cons, List.not_mem_nil, or_false, or_comm, or_left_comm, or_assoc], fun f => by simp only [List.map_cons, List.map_nil, List.sum_cons, List.sum_nil, Nat.add_comm, Nat.add_left_comm, Nat.add_assoc], rfl⟩
theorem pm_bdcae (a b c d e : Addr) : Sm [a, b, c, d, e] [b, d, c, a, e] := ⟨fun x => by simp only [List.mem_cons, List.not_mem_nil, or_false, or_comm, or_left_comm, or_assoc], fun f => by simp only [List.map_cons, List.map_nil, List.sum_cons, List.sum_nil, Nat.add_comm, Nat.add_left_comm, Nat.add_assoc], rfl⟩
theorem pm_becda (a b c d e : Addr) : Sm [a, b, c, d, e] [b, e, c, d, a] := ⟨fun x => by simp only [List.mem_cons, List.not_mem_nil, or_false, or_comm, or_left_comm, or_assoc], fun f => by simp only [List.map_cons, List.map_nil, List.sum_cons, List.sum_nil, Nat.add_comm, Nat.add_left_comm, Nat.add_assoc], rfl⟩
theorem pm_cbade (a b c d e : Addr) : Sm [a, b, c, d, e] [c, b, a, d, e] := ⟨fun x => by simp only [List.mem_cons, List.not_mem_nil, or_false, or_comm, or_left_comm, or_assoc], fun f => by simp only [List.map_cons, List.map_nil, List.sum_cons, List.sum_nil, Nat.add_comm, Nat.add_left_comm, Nat.add_assoc], rfl⟩
theorem pm_adcb (a b c d : Addr) : Sm [a, b, c, d] [a, d, c, b] := ⟨fun x => by simp only [List.mem_cons, List.not_mem_nil, or_false, or_comm, or_left_comm, or_assoc], fun f => by simp only [List.map_cons, List.map_nil, List.sum_cons, List.sum_nil, Nat.add_comm, Nat.add_left_comm, Nat.add_assoc], rfl⟩
theorem pm_adcbe (a b c d e : Addr) : Sm [a, b, c, d, e] [a, d, c, b, e] := ⟨fun x => by simp only [List.mem_cons, List.not_mem_nil, or_false, or_comm, or_left_comm, or_assoc], fun f => by simp only [List.map_cons, List.map_nil, List.sum_cons, List.sum_nil, Nat.add_comm, Nat.add_left_comm, Nat.add_assoc], rfl⟩
theorem pm_aecdb (a b c d e : Addr) : Sm [a, b, c, d, e] [a, e, c, d, b] := ⟨fun x => by simp only [List.mem_cons, List.not_mem_nil, or_false, or_comm, or_left_comm, or_assoc], fun f => by simp only [List.map_cons, List.map_nil, List.sum_cons, List.sum_nil, Nat.add_comm, Nat.add_left_comm, Nat.add_assoc], rfl⟩
theorem pm_dacb (a b c d : Addr) : Sm [a, b, c, d] [d, a, c, b] := ⟨fun x => by simp only [List.mem_cons, List.not_mem_nil, or_false, or_comm, or_left_comm, or_assoc], fun f => by simp only [List.map_cons, List.map_nil, List.sum_cons, List.sum_nil, Nat.add_comm, Nat.add_left_comm, Nat.add_assoc], rfl⟩
theorem pm_eacdb (a b c d e : Addr) : Sm [a, b, c, d, e] [e, a, c, d, b] := ⟨fun x => by simp only [List.mem_cons, List.not_mem_nil, or_false, or_comm, or_left_comm, or_assoc], fun f => by simp only [List.map_cons, List.map_nil, List.sum_cons, List.sum_nil, Nat.add_comm, Nat.add_left_comm, Nat.add_assoc], rfl⟩
theorem up0_1 (κ : Addr → Int) (a : Addr) : Gd κ [a] (up κ [a] 0) := by
  have eu : up κ [a] 0 = [a] := by simp [up, sup, kidOf, down, sdn]
  rw [eu]
  exact ⟨True.intro, Sm.idn _⟩
theorem up0_2 (κ : Addr → Int) (a b : Addr) : Gd κ [a, b] (up κ [a, b] 0) := by
  by_cases h1 : κ a < κ b
  · have eu : up κ [a, b] 0 = [a, b] := by simp [up, sup, kidOf, down, sdn, h1]
    rw [eu]
    exact ⟨(Int.le_of_lt h1), Sm.idn _⟩
  · have eu : up κ [a, b] 0 = [b, a] := by simp [up, sup, kidOf, down, sdn, h1]
    rw [eu]
    exact ⟨(Int.not_lt.mp h1), pm_ba a b⟩
theorem up0_3 (κ : Addr → Int) (a b c : Addr) : Gd κ [a, b, c] (up κ [a, b, c] 0) := by
  by_cases h1 : κ b < κ c
  · by_cases h2 : κ a < κ b
    · have eu : up κ [a, b, c] 0 = [a, b, c] := by simp [up, sup, kidOf, down, sdn, h1, h2]
      rw [eu]
      exact ⟨(And.intro (Int.le_of_lt h2) (Int.le_trans (Int.le_of_lt h2) (Int.le_of_lt h1))), Sm.idn _⟩
    · have eu : up κ [a, b, c] 0 = [b, a, c] := by simp [up, sup, kidOf, down, sdn, h1, h2]
      rw [eu]
      exact ⟨(And.intro (Int.not_lt.mp h2) (Int.le_of_lt h1)), pm_bac a b c⟩
  · by_cases h3 : κ a < κ c
    · have eu : up κ [a, b, c] 0 = [a, b, c] := by simp [up, sup, kidOf, down, sdn, h1, h3]
      rw [eu]
      exact ⟨(And.intro (Int.le_trans (Int.le_of_lt h3) (Int.not_lt.mp h1)) (Int.le_of_lt h3)), Sm.idn _⟩
    · have eu : up κ [a, b, c] 0 = [c, b, a] := by simp [up, sup, kidOf, down, sdn, h1, h3]
      rw [eu]
      exact ⟨(And.intro (Int.not_lt.mp h1) (Int.not_lt.mp h3)), pm_cba a b c⟩
theorem up0_4 (κ : Addr → Int) (a b c d : Addr) (h0 : κ b ≤ κ d) : Gd κ [a, b, c, d] (up κ [a, b, c, d] 0) := by
  by_cases h1 : κ b < κ c
  · by_cases h2 : κ a < κ d
    · by_cases h3 : κ a < κ b
      · have eu : up κ [a, b, c, d] 0 = [a, b, c, d] := by simp [up, sup, kidOf, down, sdn, h1, h2, h3]
        rw [eu]
        exact ⟨(And.intro (Int.le_of_lt h3) (And.intro (Int.le_trans (Int.le_of_lt h3) (Int.le_of_lt h1)) h0)), Sm.idn _⟩
      · have eu : up κ [a, b, c, d] 0 = [b, a, c, d] := by simp [up, sup, kidOf, down, sdn, h1, h2, h3]
        rw [eu]
        exact ⟨(And.intro (Int.not_lt.mp h3) (And.intro (Int.le_of_lt h1) (Int.le_of_lt h2))), pm_bacd a b c d⟩
    · have eu : up κ [a, b, c, d] 0 = [b, d, c, a] := by simp [up, sup, kidOf, down, sdn, h1, h2]
      rw [eu]
      exact ⟨(And.intro h0 (And.intro (Int.le_of_lt h1) (Int.not_lt.mp h2))), pm_bdca a b c d⟩
  · by_cases h4 : κ a < κ c
    · have eu : up κ [a, b, c, d] 0 = [a, b, c, d] := by simp [up, sup, kidOf, down, sdn, h1, h4]
      rw [eu]
      exact ⟨(And.intro (Int.le_trans (Int.le_of_lt h4) (Int.not_lt.mp h1)) (And.intro (Int.le_of_lt h4) h0)), Sm.idn _⟩
    · have eu : up κ [a, b, c, d] 0 = [c, b, a, d] := by simp [up, sup, kidOf, down, sdn, h1, h4]
      rw [eu]
      exact ⟨(And.intro (Int.not_lt.mp h1) (And.intro (Int.not_lt.mp h4) h0)), pm_cbad a b c d⟩
theorem up0_5 (κ : Addr → Int) (a b c d e : Addr) (h0 : κ b ≤ κ d) (h0e : κ b ≤ κ e) : Gd κ [a, b, c, d, e] (up κ [a, b, c, d, e] 0) := by
  by_cases h1 : κ b < κ c
  · by_cases h2 : κ d < κ e
    · by_cases h3 : κ a < κ d
      · by_cases h4 : κ a < κ b
        · have eu : up κ [a, b, c, d, e] 0 = [a, b, c, d, e] := by simp [up, sup, kidOf, down, sdn, h1, h2, h3, h4]
          rw [eu]
          exact ⟨(And.intro (Int.le_of_lt h4) (And.intro (Int.le_trans (Int.le_of_lt h4) (Int.le_of_lt h1)) (And.intro h0 h0e))), Sm.idn _⟩
        · have eu : up κ [a, b, c, d, e] 0 = [b, a, c, d, e] := by simp [up, sup, kidOf, down, sdn, h1, h2, h3, h4]
          rw [eu]
          exact ⟨(And.intro (Int.not_lt.mp h4) (And.intro (Int.le_of_lt h1) (And.intro (Int.le_of_lt h3) (Int.le_trans (Int.le_of_lt h3) (Int.le_of_lt h2))))), pm_bacde a b c d e⟩
      · have eu : up κ [a, b, c, d, e] 0 = [b, d, c, a, e] := by simp [up, sup, kidOf, down, sdn, h1, h2, h3]
        rw [eu]
        exact ⟨(And.intro h0 (And.intro (Int.le_of_lt h1) (And.intro (Int.not_lt.mp h3) (Int.le_of_lt h2)))), pm_bdcae a b c d e⟩
    · by_cases h5 : κ a < κ e
      · by_cases h6 : κ a < κ b
        · have eu : up κ [a, b, c, d, e] 0 = [a, b, c, d, e] := by simp [up, sup, kidOf, down, sdn, h1, h2, h5, h6]
          rw [eu]
          exact ⟨(And.intro (Int.le_of_lt h6) (And.intro (Int.le_trans (Int.le_of_lt h6) (Int.le_of_lt h1)) (And.intro h0 h0e))), Sm.idn _⟩
        · have eu : up κ [a, b, c, d, e] 0 = [b, a, c, d, e] := by simp [up, sup, kidOf, down, sdn, h1, h2, h5, h6]
          rw [eu]
          exact ⟨(And.intro (Int.not_lt.mp h6) (And.intro (Int.le_of_lt h1) (And.intro (Int.le_trans (Int.le_of_lt h5) (Int.not_lt.mp h2)) (Int.le_of_lt h5)))), pm_bacde a b c d e⟩
      · have eu : up κ [a, b, c, d, e] 0 = [b, e, c, d, a] := by simp [up, sup, kidOf, down, sdn, h1, h2, h5]
        rw [eu]
        exact ⟨(And.intro h0e (And.intro (Int.le_of_lt h1) (And.intro (Int.not_lt.mp h2) (Int.not_lt.mp h5)))), pm_becda a b c d e⟩
  · by_cases h7 : κ a < κ c
    · have eu : up κ [a, b, c, d, e] 0 = [a, b, c, d, e] := by simp [up, sup, kidOf, down, sdn, h1, h7]
      rw [eu]
      exact ⟨(And.intro (Int.le_trans (Int.le_of_lt h7) (Int.not_lt.mp h1)) (And.intro (Int.le_of_lt h7) (And.intro h0 h0e))), Sm.idn _⟩
    · have eu : up κ [a, b, c, d, e] 0 = [c, b, a, d, e] := by simp [up, sup, kidOf, down, sdn, h1, h7]
      rw [eu]
      exact ⟨(And.intro (Int.not_lt.mp h1) (And.intro (Int.not_lt.mp h7) (And.intro h0 h0e))), pm_cbade a b c d e⟩
theorem up1_4 (κ : Addr → Int) (a b c d : Addr) : GdT κ [a, b, c, d] (up κ [a, b, c, d] 1) := by
  by_cases h1 : κ b < κ d
  · have eu : up κ [a, b, c, d] 1 = [a, b, c, d] := by simp [up, sup, kidOf, down, sdn, h1]
    rw [eu]
    exact ⟨(Int.le_of_lt h1), Sm.idn _⟩
  · have eu : up κ [a, b, c, d] 1 = [a, d, c, b] := by simp [up, sup, kidOf, down, sdn, h1]
    rw [eu]
    exact ⟨(Int.not_lt.mp h1), pm_adcb a b c d⟩
theorem up1_5 (κ : Addr → Int) (a b c d e : Addr) : GdT κ [a, b, c, d, e] (up κ [a, b, c, d, e] 1) := by
  by_cases h1 : κ d < κ e
  · by_cases h2 : κ b < κ d
    · have eu : up κ [a, b, c, d, e] 1 = [a, b, c, d, e] := by simp [up, sup, kidOf, down, sdn, h1, h2]
      rw [eu]
      exact ⟨(And.intro (Int.le_of_lt h2) (Int.le_trans (Int.le_of_lt h2) (Int.le_of_lt h1))), Sm.idn _⟩
    · have eu : up κ [a, b, c, d, e] 1 = [a, d, c, b, e] := by simp [up, sup, kidOf, down, sdn, h1, h2]
      rw [eu]
      exact ⟨(And.intro (Int.not_lt.mp h2) (Int.le_of_lt h1)), pm_adcbe a b c d e⟩
  · by_cases h3 : κ b < κ e
    · have eu : up κ [a, b, c, d, e] 1 = [a, b, c, d, e] := by simp [up, sup, kidOf, down, sdn, h1, h3]
      rw [eu]
      exact ⟨(And.intro (Int.le_trans (Int.le_of_lt h3) (Int.not_lt.mp h1)) (Int.le_of_lt h3)), Sm.idn _⟩
    · have eu : up κ [a, b, c, d, e] 1 = [a, e, c, d, b] := by simp [up, sup, kidOf, down, sdn, h1, h3]
      rw [eu]
      exact ⟨(And.intro (Int.not_lt.mp h1) (Int.not_lt.mp h3)), pm_aecdb a b c d e⟩
theorem push_1 (κ : Addr → Int) (a : Addr) : Gd κ [a] (down κ [a] 0 0) := by
  have eu : down κ [a] 0 0 = [a] := by simp [up, sup, kidOf, down, sdn]
  rw [eu]
  exact ⟨True.intro, Sm.idn _⟩
theorem push_2 (κ : Addr → Int) (a b : Addr) (h0 : Hp5 κ [a]) : Gd κ [a, b] (down κ [a, b] 0 1) := by
  simp only [Hp5] at h0
  by_cases h1 : κ b < κ a
  · have eu : down κ [a, b] 0 1 = [b, a] := by simp [up, sup, kidOf, down, sdn, h1]
    rw [eu]
    exact ⟨(Int.le_of_lt h1), pm_ba a b⟩
  · have eu : down κ [a, b] 0 1 = [a, b] := by simp [up, sup, kidOf, down, sdn, h1]
    rw [eu]
    exact ⟨(Int.not_lt.mp h1), Sm.idn _⟩
theorem push_3 (κ : Addr → Int) (a b c : Addr) (h0 : Hp5 κ [a, b]) : Gd κ [a, b, c] (down κ [a, b, c] 0 2) := by
  simp only [Hp5] at h0
  by_cases h1 : κ c < κ a
  · have eu : down κ [a, b, c] 0 2 = [c, b, a] := by simp [up, sup, kidOf, down, sdn, h1]
    rw [eu]
    exact ⟨(And.intro (Int.le_trans (Int.le_of_lt h1) h0) (Int.le_of_lt h1)), pm_cba a b c⟩
  · have eu : down κ [a, b, c] 0 2 = [a, b, c] := by simp [up, sup, kidOf, down, sdn, h1]
    rw [eu]
    exact ⟨(And.intro h0 (Int.not_lt.mp h1)), Sm.idn _⟩
theorem push_4 (κ : Addr → Int) (a b c d : Addr) (h0 : Hp5 κ [a, b, c]) : Gd κ [a, b, c, d] (down κ [a, b, c, d] 0 3) := by
  simp only [Hp5] at h0
  by_cases h1 : κ d < κ b
  · by_cases h2 : κ d < κ a
    · have eu : down κ [a, b, c, d] 0 3 = [d, a, c, b] := by simp [up, sup, kidOf, down, sdn, h1, h2]
      rw [eu]
      exact ⟨(And.intro (Int.le_of_lt h2) (And.intro (Int.le_trans (Int.le_of_lt h2) h0.2) h0.1)), pm_dacb a b c d⟩
    · have eu : down κ [a, b, c, d] 0 3 = [a, d, c, b] := by simp [up, sup, kidOf, down, sdn, h1, h2]
      rw [eu]
      exact ⟨(And.intro (Int.not_lt.mp h2) (And.intro h0.2 (Int.le_of_lt h1))), pm_adcb a b c d⟩
  · have eu : down κ [a, b, c, d] 0 3 = [a, b, c, d] := by simp [up, sup, kidOf, down, sdn, h1]
    rw [eu]
    exact ⟨(And.intro h0.1 (And.intro h0.2 (Int.not_lt.mp h1))), Sm.idn _⟩
theorem push_5 (κ : Addr → Int) (a b c d e : Addr) (h0 : Hp5 κ [a, b, c, d]) : Gd κ [a, b, c, d, e] (down κ [a, b, c, d, e] 0 4) := by
  simp only [Hp5] at h0
  by_cases h1 : κ e < κ b
  · by_cases h2 : κ e < κ a
    · have eu : down κ [a, b, c, d, e] 0 4 = [e, a, c, d, b] := by simp [up, sup, kidOf, down, sdn, h1, h2]
      rw [eu]
      exact ⟨(And.intro (Int.le_of_lt h2) (And.intro (Int.le_trans (Int.le_of_lt h2) h0.2.1) (And.intro (Int.le_trans h0.1 h0.2.2) h0.1))), pm_eacdb a b c d e⟩
    · have eu : down κ [a, b, c, d, e] 0 4 = [a, e, c, d, b] := by simp [up, sup, kidOf, down, sdn, h1, h2]
      rw [eu]
      exact ⟨(And.intro (Int.not_lt.mp h2) (And.intro h0.2.1 (And.intro (Int.le_trans (Int.le_of_lt h1) h0.2.2) (Int.le_of_lt h1)))), pm_aecdb a b c d e⟩
  · have eu : down κ [a, b, c, d, e] 0 4 = [a, b, c, d, e] := by simp [up, sup, kidOf, down, sdn, h1]
    rw [eu]
    exact ⟨(And.intro h0.1 (And.intro h0.2.1 (And.intro h0.2.2 (Int.not_lt.mp h1)))), Sm.idn _⟩
theorem up0_all {κ : Addr → Int} {xs : List Addr} (h : HpT κ xs) (h0 : 0 < xs.length) (hl : xs.length ≤ 5) : Gd κ xs (up κ xs 0) := by
  match xs, h, h0, hl with
  | [a], _, _, _ => exact up0_1 κ a
  | [a, b], _, _, _ => exact up0_2 κ a b
  | [a, b, c], _, _, _ => exact up0_3 κ a b c
  | [a, b, c, d], h, _, _ => exact up0_4 κ a b c d h
  | [a, b, c, d, e], h, _, _ => exact up0_5 κ a b c d e h.1 h.2
  | _ :: _ :: _ :: _ :: _ :: _ :: _, _, _, hl => simp at hl
theorem push_all {κ : Addr → Int} {xs : List Addr} {x : Addr} (h : Hp5 κ xs) (hl : xs.length ≤ 4) : Gd κ (xs ++ [x]) (pushL κ xs x) := by
  match xs, h, hl with
  | [], _, _ => exact push_1 κ x
  | [a], h, _ => exact push_2 κ a x h
  | [a, b], h, _ => exact push_3 κ a b x h
  | [a, b, c], h, _ => exact push_4 κ a b c x h
  | [a, b, c, d], h, _ => exact push_5 κ a b c d x h
  | _ :: _ :: _ :: _ :: _ :: _, _, hl => simp at hl
theorem Gd.pre {κ : Addr → Int} {xs ys zs : List Addr} (a : Sm xs ys) (b : Gd κ ys zs) : Gd κ xs zs := ⟨b.1, a.trans b.2⟩
theorem heap_all {κ : Addr → Int} {xs : List Addr} (hl : xs.length ≤ 5) : Gd κ xs (heapL κ xs) := by
  match xs, hl with
  | [], _ => exact ⟨trivial, fun _ => Iff.rfl, fun _ => rfl, rfl⟩
  | [a], _ => rw [show heapL κ [a] = [a] by simp [heapL, hfy]]; exact ⟨trivial, fun _ => Iff.rfl, fun _ => rfl, rfl⟩
  | [a, b], _ => rw [show heapL κ [a, b] = up κ [a, b] 0 by simp [heapL, hfy]]; exact up0_2 κ a b
  | [a, b, c], _ => rw [show heapL κ [a, b, c] = up κ [a, b, c] 0 by simp [heapL, hfy]]; exact up0_3 κ a b c
  | [a, b, c, d], _ =>
    rw [show heapL κ [a, b, c, d] = up κ (up κ [a, b, c, d] 1) 0 by simp [heapL, hfy]]
    have q := up1_4 κ a b c d
    exact Gd.pre q.2 (up0_all q.1 (by rw [q.2.2.2]; simp) (by rw [q.2.2.2]; simp))
  | [a, b, c, d, e], _ =>
    rw [show heapL κ [a, b, c, d, e] = up κ (up κ [a, b, c, d, e] 1) 0 by simp [heapL, hfy]]
    have q := up1_5 κ a b c d e
    exact Gd.pre q.2 (up0_all q.1 (by rw [q.2.2.2]; simp) (by rw [q.2.2.2]; simp))
  | _ :: _ :: _ :: _ :: _ :: _ :: _, hl => simp at hl
theorem Hp5.low {κ : Addr → Int} {x : Addr} {xs : List Addr} (h : Hp5 κ (x :: xs)) : ∀ y ∈ xs, κ x ≤ κ y := by
  match xs, h with
  | [], _ => simp
  | [a], h => simp only [Hp5] at h; simp; omega
  | [a, b], h => simp only [Hp5] at h; simp; omega
  | [a, b, c], h => simp only [Hp5] at h; simp; omega
  | [a, b, c, d], h => simp only [Hp5] at h; simp; omega
theorem Hp5.top {κ : Addr → Int} {x z : Addr} {xs : List Addr} (h : Hp5 κ (x :: xs)) : HpT κ (z :: xs) := by
  match xs, h with
  | [], _ => trivial
  | [a], h => trivial
  | [a, b], h => trivial
  | [a, b, c], h => exact h.2.2
  | [a, b, c, d], h => exact h.2.2
theorem Hp5.cut {κ : Addr → Int} {xs : List Addr} {z : Addr} (h : Hp5 κ (xs ++ [z])) : Hp5 κ xs := by
  match xs, h with
  | [], _ => trivial
  | [a], h => trivial
  | [a, b], h => exact h.1
  | [a, b, c], h => exact ⟨h.1, h.2.1⟩
  | [a, b, c, d], h => exact ⟨h.1, h.2.1, h.2.2.1⟩
  | [a, b, c, d, e], h => exact h.elim
  | a :: b :: c :: d :: e :: f :: r, h => exact h.elim
end

section
structure Idl (S : Int → Int → Prop) : Prop where
  zero : S 0 0
  add : ∀ {a b c d}, S a b → S c d → S (a + c) (b + d)
  neg : ∀ {a b}, S a b → S (-a) (-b)
  om : ∀ {a b}, S a b → S (-b) (a - b)
theorem Idl.sub {S : Int → Int → Prop} (I : Idl S) {a b c d : Int} (h : S a b) (h' : S c d) : S (a - c) (b - d) := by
  have := I.add h (I.neg h')
  rwa [← Int.sub_eq_add_neg, ← Int.sub_eq_add_neg] at this
theorem Idl.nmul {S : Int → Int → Prop} (I : Idl S) {a b : Int} (h : S a b) : ∀ k : Nat, S (k * a) (k * b)
  | 0 => by simpa using I.zero
  | k + 1 => by
    have := I.add (I.nmul h k) h
    have e : ∀ x : Int, ((k + 1 : Nat) : Int) * x = k * x + x := fun x => by push_cast; grind
    rw [e, e]; exact this
theorem Idl.imul {S : Int → Int → Prop} (I : Idl S) {a b : Int} (h : S a b) (k : Int) : S (k * a) (k * b) := by
  rcases Int.eq_nat_or_neg k with ⟨n, rfl | rfl⟩
  · exact I.nmul h n
  · have := I.neg (I.nmul h n)
    rw [Int.neg_mul, Int.neg_mul]; exact this
/-- (k + j w)(m + n w) -/
theorem Idl.mul {S : Int → Int → Prop} (I : Idl S) {m n : Int} (h : S m n) (k j : Int) : S (k * m - j * n) (k * n + j * m - j * n) := by
  have := I.add (I.imul h k) (I.imul (I.om h) j)
  have e1 : k * m + j * -n = k * m - j * n := by grind
  have e2 : k * n + j * (m - n) = k * n + j * m - j * n := by grind
  rwa [e1, e2] at this
/-- alike but for a unit -/
noncomputable def As (x y a b : Int) : Prop := (x = a ∧ y = b) ∨ (x = -b ∧ y = a - b) ∨ (x = b - a ∧ y = -a) ∨ (x = -a ∧ y = -b) ∨ (x = b ∧ y = b - a) ∨ (x = a - b ∧ y = a)
noncomputable def asD (x y a b : Int) : Decidable (As x y a b) := by unfold As; infer_instance
theorem Idl.as {S : Int → Int → Prop} (I : Idl S) {x y a b : Int} (h : As x y a b) : S x y ↔ S a b := by
  have om3 : ∀ {a b}, S (-b) (a - b) → S a b := fun {a b} h => by
    have q := I.om (I.om h)
    have e1 : -(-b - (a - b)) = a := by omega
    have e2 : -(a - b) - (-b - (a - b)) = b := by omega
    rwa [e1, e2] at q
  have ng : ∀ {a b}, S (-a) (-b) → S a b := fun {a b} h => by
    have q := I.neg h
    rwa [Int.neg_neg, Int.neg_neg] at q
  have omi : ∀ {a b}, S a b ↔ S (-b) (a - b) := ⟨I.om, om3⟩
  have ngi : ∀ {a b}, S a b ↔ S (-a) (-b) := ⟨I.neg, ng⟩
  rcases h with ⟨e1, e2⟩ | ⟨e1, e2⟩ | ⟨e1, e2⟩ | ⟨e1, e2⟩ | ⟨e1, e2⟩ | ⟨e1, e2⟩ <;> rw [e1, e2]
  all_goals clear e1 e2
  · exact omi.symm
  · refine Iff.trans ?_ (omi.trans omi).symm
    rw [show -(a - b) = b - a by omega, show -b - (a - b) = -a by omega]
  · exact ngi.symm
  · refine Iff.trans ?_ (omi.trans ngi).symm
    rw [show - -b = b by omega, show -(a - b) = b - a by omega]
  · refine Iff.trans ?_ ((omi.trans omi).trans ngi).symm
    rw [show - -(a - b) = a - b by omega, show -(-b - (a - b)) = a by omega]
noncomputable def Same (xs ys : List (Int × Int)) : Prop := ∀ S : Int → Int → Prop, Idl S → ((∀ x ∈ xs, S x.1 x.2) ↔ (∀ y ∈ ys, S y.1 y.2))
theorem Same.refl (xs : List (Int × Int)) : Same xs xs := fun _ _ => Iff.rfl
theorem Same.symm {xs ys : List (Int × Int)} (h : Same xs ys) : Same ys xs := fun S I => (h S I).symm
theorem Same.trans {xs ys zs : List (Int × Int)} (h : Same xs ys) (h' : Same ys zs) : Same xs zs := fun S I => (h S I).trans (h' S I)
theorem Same.mem {xs ys : List (Int × Int)} (h : ∀ x, x ∈ xs ↔ x ∈ ys) : Same xs ys := fun _ _ => ⟨fun q x hx => q x ((h x).mpr hx), fun q x hx => q x ((h x).mp hx)⟩
theorem Same.app {xs ys xs' ys' : List (Int × Int)} (h : Same xs ys) (h' : Same xs' ys') : Same (xs ++ xs') (ys ++ ys') := fun S I => by
  rw [List.forall_mem_append, List.forall_mem_append, h S I, h' S I]
theorem Same.zero {xs : List (Int × Int)} : Same (xs ++ [(0, 0)]) xs := fun S I => by
  rw [List.forall_mem_append]
  exact ⟨fun h => h.1, fun h => ⟨h, by intro x hx; rw [List.mem_singleton.mp hx]; exact I.zero⟩⟩
noncomputable def chkA (r g b : Nat) : Bool := @decide (As (nmA r g b) (nmB r g b) ((r : Int) - b) ((g : Int) - b)) (asD _ _ _ _)
theorem chkA_all : ∀ r : Fin 7, ∀ g : Fin 7, ∀ b : Fin 7, chkA r.1 g.1 b.1 = true := by decide +kernel
theorem nm_as {r g b : Int} (h1 : Seven r) (h2 : Seven g) (h3 : Seven b) : As (nmA r g b) (nmB r g b) (r - b) (g - b) := by
  have q := chkA_all ⟨r.toNat, by omega⟩ ⟨g.toNat, by omega⟩ ⟨b.toNat, by omega⟩
  unfold chkA at q
  dsimp only at q
  rw [show ((r.toNat : Nat) : Int) = r by omega, show ((g.toNat : Nat) : Int) = g by omega, show ((b.toNat : Nat) : Int) = b by omega] at q
  exact @of_decide_eq_true _ (asD _ _ _ _) q
/-- the step of either run -/
theorem rest_idl {S : Int → Int → Prop} (I : Idl S) {a b m n : Int} (h1 : Nm a b) (h2 : Nm m n) (hm : S m n) : S a b ↔ S (rsA a b m n) (rsB a b m n) := by
  obtain ⟨q1, q2, q3, _⟩ := rest_all h1 h2
  have A := nm_as q1 q2 q3
  rw [show ra a b m n - rg a b m n - -rg a b m n = ra a b m n by omega, show rb a b m n - rg a b m n - -rg a b m n = rb a b m n by omega] at A
  refine Iff.trans ?_ (I.as A).symm
  have M := I.mul hm (rk a b m n) (rj a b m n)
  constructor
  · intro h
    have := I.sub h M
    have e1 : a - (rk a b m n * m - rj a b m n * n) = ra a b m n := by unfold ra; omega
    have e2 : b - (rk a b m n * n + rj a b m n * m - rj a b m n * n) = rb a b m n := by unfold rb; omega
    rwa [e1, e2] at this
  · intro h
    have := I.add h M
    have e1 : ra a b m n + (rk a b m n * m - rj a b m n * n) = a := by unfold ra; omega
    have e2 : rb a b m n + (rk a b m n * n + rj a b m n * m - rj a b m n * n) = b := by unfold rb; omega
    rwa [e1, e2] at this
noncomputable abbrev Nm0 (a b : Int) : Prop := Nm a b ∨ (a = 0 ∧ b = 0)
/-- multiples of one number -/
noncomputable def Mul (g h a b : Int) : Prop := ∃ c d, a = g * c - h * d ∧ b = g * d + h * c - h * d
theorem Mul.idl (g h : Int) : Idl (Mul g h) where
  zero := ⟨0, 0, by simp, by simp⟩
  add := fun ⟨c, d, e1, e2⟩ ⟨c', d', e1', e2'⟩ => ⟨c + c', d + d', by grind, by grind⟩
  neg := fun ⟨c, d, e1, e2⟩ => ⟨-c, -d, by grind, by grind⟩
  om := fun ⟨c, d, e1, e2⟩ => ⟨-d, c - d, by grind, by grind⟩
theorem Mul.self (g h : Int) : Mul g h g h := ⟨1, 0, by grind, by grind⟩
theorem Mul.turn {g h a b : Int} (q : Mul g h a b) : nrm g h ∣ tbA a b g h ∧ nrm g h ∣ tbB a b g h := by
  obtain ⟨c, d, e1, e2⟩ := q
  refine ⟨⟨c, ?_⟩, ⟨d, ?_⟩⟩
  · unfold tbA nrm; subst e1 e2; grind
  · unfold tbB nrm; subst e1 e2; grind
noncomputable def chkU (a b m n : Nat) : Bool := !(decide (Nm a b) && decide (Nm m n)) || !(decide (Int.emod (tbA a b m n) (nrm m n) = 0) && decide (Int.emod (tbB a b m n) (nrm m n) = 0) && decide (Int.emod (tbA m n a b) (nrm a b) = 0) && decide (Int.emod (tbB m n a b) (nrm a b) = 0)) || decide (a = m ∧ b = n)
theorem chkU_all : ∀ a : Fin 7, ∀ b : Fin 7, ∀ m : Fin 7, ∀ n : Fin 7, chkU a.1 b.1 m.1 n.1 = true := by decide +kernel
theorem uniq {a b m n : Int} (h1 : Nm0 a b) (h2 : Nm0 m n) (h : Same [(a, b)] [(m, n)]) : a = m ∧ b = n := by
  have q1 : Mul m n a b := by
    have := (h (Mul m n) (Mul.idl m n)).mpr (by intro y hy; rw [List.mem_singleton.mp hy]; exact Mul.self m n)
    exact this (a, b) (List.mem_singleton.mpr rfl)
  have q2 : Mul a b m n := by
    have := (h (Mul a b) (Mul.idl a b)).mp (by intro y hy; rw [List.mem_singleton.mp hy]; exact Mul.self a b)
    exact this (m, n) (List.mem_singleton.mpr rfl)
  rcases h1 with h1 | ⟨rfl, rfl⟩
  · rcases h2 with h2 | ⟨rfl, rfl⟩
    · have q := chkU_all ⟨a.toNat, by omega⟩ ⟨b.toNat, by omega⟩ ⟨m.toNat, by omega⟩ ⟨n.toNat, by omega⟩
      have ea : ((a.toNat : Nat) : Int) = a := by omega
      have eb : ((b.toNat : Nat) : Int) = b := by omega
      have em : ((m.toNat : Nat) : Int) = m := by omega
      have en : ((n.toNat : Nat) : Int) = n := by omega
      unfold chkU at q
      dsimp only at q
      rw [ea, eb, em, en] at q
      have d1 := q1.turn
      have d2 := q2.turn
      rw [decide_eq_true h1, decide_eq_true h2, decide_eq_true (p := Int.emod (tbA a b m n) (nrm m n) = 0) (Int.emod_eq_zero_of_dvd d1.1), decide_eq_true (p := Int.emod (tbB a b m n) (nrm m n) = 0) (Int.emod_eq_zero_of_dvd d1.2),
        decide_eq_true (p := Int.emod (tbA m n a b) (nrm a b) = 0) (Int.emod_eq_zero_of_dvd d2.1), decide_eq_true (p := Int.emod (tbB m n a b) (nrm a b) = 0) (Int.emod_eq_zero_of_dvd d2.2)] at q
      simp only [Bool.and_self, Bool.not_true, Bool.or_self, Bool.false_or, decide_eq_true_eq] at q
      omega
    · obtain ⟨c, d, e1, e2⟩ := q1
      simp at e1 e2
      omega
  · obtain ⟨c, d, e1, e2⟩ := q2
    simp at e1 e2
    omega
end

section
open PySem
noncomputable abbrev nms (ka kb : Addr → Int) (xs : List Addr) : List (Int × Int) := xs.map fun x => (ka x, kb x)
theorem Sm.same {ka kb : Addr → Int} {xs ys : List Addr} (h : Sm xs ys) : Same (nms ka kb ys) (nms ka kb xs) := by
  refine Same.mem fun p => ?_
  simp only [nms, List.mem_map]
  constructor
  · rintro ⟨x, hx, rfl⟩; exact ⟨x, (h.1 x).mp hx, rfl⟩
  · rintro ⟨x, hx, rfl⟩; exact ⟨x, (h.1 x).mpr hx, rfl⟩
theorem Hp5.congr {κ κ' : Addr → Int} {xs : List Addr} (h : Hp5 κ xs) (e : ∀ x ∈ xs, κ' x = κ x) : Hp5 κ' xs := by
  match xs, h with
  | [], _ => trivial
  | [a], h => trivial
  | [a, b], h => simp only [Hp5] at h ⊢; simp at e; omega
  | [a, b, c], h => simp only [Hp5] at h ⊢; simp at e; omega
  | [a, b, c, d], h => simp only [Hp5] at h ⊢; simp at e; omega
  | [a, b, c, d, f], h => simp only [Hp5] at h ⊢; simp at e; omega
  | a :: b :: c :: d :: e :: f :: r, h => exact h.elim
theorem turn_pure {κ : Addr → Int} {x0 z : Addr} {r : List Addr} (h : Hp5 κ ((x0 :: r) ++ [z])) (hl : ((x0 :: r) ++ [z]).length ≤ 5) :
    ∃ y us vs, popL κ (x0 :: r) z = y :: us ∧ up κ (x0 :: us) 0 = vs ∧ Hp5 κ vs ∧ vs.length = r.length + 1 ∧ us.length = r.length ∧ x0 ∈ vs ∧ (∀ x, x ∈ y :: us ↔ x ∈ z :: r) ∧ (∀ x, x ∈ vs ↔ x ∈ x0 :: us) ∧ κ x0 ≤ κ y ∧
      (∀ f : Addr → Nat, (((x0 :: r) ++ [z]).map f).sum = f y + (vs.map f).sum) := by
  have hl' : r.length + 1 + 1 ≤ 5 := by simpa using hl
  have e1 : popL κ (x0 :: r) z = up κ (z :: r) 0 := (pop_is (κ := κ) (xs := x0 :: r) (z := z) (y := x0) rfl).2
  have g1 : Gd κ (z :: r) (up κ (z :: r) 0) := up0_all (Hp5.top (Hp5.cut h)) (by simp) (by simp; omega)
  rw [e1]
  obtain ⟨hu, hm, hs, hle⟩ := g1
  cases e2 : up κ (z :: r) 0 with
  | nil => rw [e2] at hle; simp at hle
  | cons y us =>
    rw [e2] at hu hm hs hle
    have hle' : us.length = r.length := by simpa using hle
    have g2 : Gd κ (x0 :: us) (up κ (x0 :: us) 0) := up0_all (Hp5.top hu) (by simp) (by simp; omega)
    have hy : κ x0 ≤ κ y := by
      have hmem : y ∈ z :: r := (hm y).mp (.head _)
      refine Hp5.low (x := x0) (xs := r ++ [z]) h y ?_
      rcases List.mem_cons.mp hmem with rfl | q
      · simp
      · simp [q]
    refine ⟨y, us, _, rfl, rfl, g2.1, by rw [g2.2.2.2]; simp [hle'], hle', (g2.2.1 x0).mpr (.head _), hm, g2.2.1, hy, fun f => ?_⟩
    have a1 := hs f
    have a2 := g2.2.2.1 f
    simp only [List.map_cons, List.sum_cons, List.map_append, List.map_nil, List.sum_append, List.sum_nil, List.cons_append] at a1 a2 ⊢
    omega
theorem key_nrm {a b c d : Int} (h1 : Nm a b) (h2 : Nm c d) (h : nrm a b * 100 + a * 10 + b ≤ nrm c d * 100 + c * 10 + d) : nrm a b ≤ nrm c d := by
  unfold Nm at h1 h2
  omega
/-- a turn leaves the ideal: the names before are y's and vs's, behind it vs's and the rest's -/
theorem turn_same {ka kb : Addr → Int} {xs vs : List Addr} {x0 y : Addr} (hm : ∀ x, x ∈ xs ↔ x ∈ y :: vs) (hx : x0 ∈ vs) (h1 : Nm (ka y) (kb y)) (h2 : Nm (ka x0) (kb x0)) :
    Same (nms ka kb vs ++ [(rsA (ka y) (kb y) (ka x0) (kb x0), rsB (ka y) (kb y) (ka x0) (kb x0))]) (nms ka kb xs) := by
  intro S I
  have e : (∀ p ∈ nms ka kb xs, S p.1 p.2) ↔ ∀ x ∈ y :: vs, S (ka x) (kb x) := by
    simp only [nms, List.forall_mem_map]
    exact ⟨fun h x q => h x ((hm x).mpr q), fun h x q => h x ((hm x).mp q)⟩
  rw [e, List.forall_mem_append, List.forall_mem_cons]
  simp only [nms, List.forall_mem_map, List.forall_mem_cons, List.not_mem_nil, false_implies, implies_true, and_true]
  constructor
  · rintro ⟨q1, q2⟩
    exact ⟨(rest_idl I h1 h2 (q1 _ hx)).mpr q2, q1⟩
  · rintro ⟨q1, q2⟩
    exact ⟨q2, (rest_idl I h1 h2 (q2 _ hx)).mp q1⟩
end

section
open PySem
noncomputable def chkK (a b : Nat) : Bool := !(decide (Nm a b)) || decide (nmA a b 0 = a ∧ nmB a b 0 = b)
theorem chkK_all : ∀ a : Fin 7, ∀ b : Fin 7, chkK a.1 b.1 = true := by decide +kernel
theorem nm_key {a b : Int} (h : Nm a b) : nmA a b 0 = a ∧ nmB a b 0 = b := by
  have q := chkK_all ⟨a.toNat, by omega⟩ ⟨b.toNat, by omega⟩
  have ea : ((a.toNat : Nat) : Int) = a := by omega
  have eb : ((b.toNat : Nat) : Int) = b := by omega
  unfold chkK at q
  dsimp only at q
  rw [ea, eb, decide_eq_true h] at q
  simpa using q
theorem line_same {R : List (Int × Int)} {a b c d : Int} {x y : Int × Int} (h1 : Nm c d) (h2 : Nm a b) (hor : (x = (a, b) ∧ y = (c, d)) ∨ (x = (c, d) ∧ y = (a, b))) :
    Same (R ++ [(a, b)] ++ [(rsA c d a b, rsB c d a b)]) (x :: y :: R) := by
  intro S I
  simp only [List.forall_mem_append, List.forall_mem_cons, List.not_mem_nil, false_implies, implies_true, and_true]
  have k : S a b → (S c d ↔ S (rsA c d a b) (rsB c d a b)) := fun h => rest_idl I h1 h2 h
  rcases hor with ⟨rfl, rfl⟩ | ⟨rfl, rfl⟩
  · constructor
    · rintro ⟨⟨q1, q2⟩, q3⟩; exact ⟨q2, (k q2).mpr q3, q1⟩
    · rintro ⟨q2, q3, q1⟩; exact ⟨⟨q1, q2⟩, (k q2).mp q3⟩
  · constructor
    · rintro ⟨⟨q1, q2⟩, q3⟩; exact ⟨(k q2).mpr q3, q2, q1⟩
    · rintro ⟨q3, q2, q1⟩; exact ⟨⟨q1, q2⟩, (k q2).mp q3⟩
end

section
local macro_rules | `(tactic| walk_at "CompEnd") => `(tactic| (k_dflt (first | (refine' end_one ?F ?N ?off ?h1 ?S ?_; (case F => k_asm); (case N => k_asm); (case off => assumption); (case h1 => exact ⟨by omega, by omega, by omega⟩); (case S => first | exact True.intro | exact Or.inr ⟨_, by k_mem, rfl, _, rfl⟩)) | (refine' end_none ?F ?N ?off ?S ?_; (case F => k_asm); (case N => k_asm); (case off => assumption); (case S => first | exact True.intro | exact Or.inr ⟨_, by k_mem, rfl, _, rfl⟩)))))
local macro_rules | `(tactic| k_mem) => `(tactic| first | assumption | exact List.Mem.head _ | exact List.Mem.tail _ (List.Mem.head _) | exact List.Mem.tail _ (List.Mem.tail _ (List.Mem.head _)) | exact List.Mem.tail _ (List.Mem.tail _ (List.Mem.tail _ (List.Mem.head _))) | exact List.Mem.tail _ (by assumption) | exact List.Mem.tail _ (List.Mem.tail _ (by assumption)) | exact List.Mem.tail _ (List.Mem.tail _ (List.Mem.tail _ (by assumption))))
local macro_rules | `(tactic| walk_at "call ref") => `(tactic| (k_here; (with_reducible show wpAny _ _ (call (Value.ref 131) _) _ _ _); k_dflt (refine' (read_con _ _ _ _ _ _ _ _ _ ?ka ?kb ?kc) _ _ _ _ _ _ _ _ _ _ _ _ _ _ _ _ _ _ _ ?k1 ?k2 ?k3 ?k4 ?k5 ?kK ?kd ?ku ?_; (((case k1 => first | k_asm | ktn_no "the frames below"); (case k2 => first | k_asm | ktn_no "the frame"); (case k3 => first | k_asm | ktn_no "the written part"); (case k4 => first | k_asm | ktn_no "the ledger"); (case k5 => first | k_asm | ktn_no "the top"); (case kK => first | exact rfl | assumption | ktn_no "no def"); (case kd => first | ktr_room | ktn_no "the room"); (case ku => first | ktr_units | ktn_no "the units"))); (case ka => assumption); (case kb => assumption); (case kc => assumption)); intro v' news' h' tk' F' N' hr'; obtain ⟨D', t1', t2', hv', l1, hn'⟩ := hr'; subst hv'; subst hn'; (try k_lt l1)))
theorem emp_is : Str.ofString "" = ⟨#[]⟩ := by decide +kernel
theorem w3_ne (a b c : Int) : (W3 a b c != Str.ofString "") = true := by
  rw [bne_iff_ne]
  intro h
  have h2 : (3 : Nat) = (Str.ofString "").cps.size := congrArg (fun x => x.cps.size) h
  exact absurd h2 (by decide +kernel)
theorem no_ne : ((⟨#[]⟩ : Str) != Str.ofString "") = false := by decide +kernel
section
variable {prog : Program} {w : World} {A : Around} {E : Value → Shared → Prop} {s : Shared} {a b c : Int} {t u : Tok} {Q : Value → Shared → Prop}
theorem ne_w3 (h : Q (.bool true) s) : wpAny (model prog w) A (compareOp .NotEq (.str (W3 a b c) t) (.str (Str.ofString "") u)) Q E s := ne_str (by rw [w3_ne]; exact h)
theorem ne_no (h : Q (.bool false) s) : wpAny (model prog w) A (compareOp .NotEq (.str ⟨#[]⟩ t) (.str (Str.ofString "") u)) Q E s := ne_str (by rw [no_ne]; exact h)
end
local macro_rules | `(tactic| walk_at "call ref") => `(tactic| (k_here; (with_reducible show wpAny _ _ (call (Value.ref 138) _) _ _ _); k_dflt (refine' (norm_con _ _ _ _ _ _ _ _ _ _ _ ?ka ?kb ?kc) _ _ _ _ _ _ _ _ _ _ _ _ _ _ _ _ _ _ _ ?k1 ?k2 ?k3 ?k4 ?k5 ?kK ?kd ?ku ?_; (((case k1 => first | k_asm | ktn_no "the frames below"); (case k2 => first | k_asm | ktn_no "the frame"); (case k3 => first | k_asm | ktn_no "the written part"); (case k4 => first | k_asm | ktn_no "the ledger"); (case k5 => first | k_asm | ktn_no "the top"); (case kK => first | exact rfl | assumption | ktn_no "no def"); (case kd => first | ktr_room | ktn_no "the room"); (case ku => first | ktr_units | ktn_no "the units"))); (case ka => k_mem); (case kb => omega); (case kc => omega)); intro v' news' h' tk' F' N' hr'; obtain ⟨hn', t1', hv'⟩ := hr'; subst hv'; subst hn'))
noncomputable abbrev Wd := Int × Int × Int
noncomputable def txt (q : Wd) : Str := W3 q.1 q.2.1 q.2.2
noncomputable def nmW (q : Wd) : Int × Int := (nmA q.1 q.2.1 q.2.2, nmB q.1 q.2.1 q.2.2)
noncomputable def okW (q : Wd) : Prop := (Seven q.1 ∧ Seven q.2.1 ∧ Seven q.2.2) ∧ Nm (nmW q).1 (nmW q).2
noncomputable def qTxt : List Wd → Str
  | [] => ⟨#[]⟩
  | q :: _ => txt q
theorem qHd_is {ws : List (Str × Tok)} {qs : List Wd} (h : ws.map Prod.fst = qs.map txt) : qHd ws = qTxt qs := by
  cases ws with
  | nil => cases qs with
    | nil => rfl
    | cons q r => simp at h
  | cons x r => cases qs with
    | nil => simp at h
    | cons q r' => simp at h; exact h.1
theorem tail_is {ws : List (Str × Tok)} {qs : List Wd} (h : ws.map Prod.fst = qs.map txt) : ws.tail.map Prod.fst = (qs.drop 1).map txt := by
  cases ws with
  | nil => cases qs with
    | nil => rfl
    | cons q r => simp at h
  | cons x r => cases qs with
    | nil => simp at h
    | cons q r' => simp at h; simpa using h.2
noncomputable def nN (q : Wd) : Nat := (nrm (nmW q).1 (nmW q).2).toNat
theorem key_txt {a b : Int} (ha : Seven a) (hb : Seven b) : Str.ofString (toString a) ++ Str.ofString (toString b) ++ Str.ofString "0" = W3 a b 0 := by
  rw [str_dg ha, str_dg hb, show Str.ofString "0" = ⟨#[48]⟩ by decide +kernel]
  rfl
theorem okK {a b : Int} (h : Nm a b) : okW (a, b, 0) := by
  have q := nm_key h
  refine ⟨⟨?_, ?_, ?_⟩, ?_⟩
  · unfold Nm at h; show 0 ≤ a ∧ a < 7; omega
  · unfold Nm at h; show 0 ≤ b ∧ b < 7; omega
  · show (0 : Int) ≤ 0 ∧ (0 : Int) < 7; omega
  · show Nm (nmA a b 0) (nmB a b 0); rw [q.1, q.2]; exact h
theorem nmK {a b : Int} (h : Nm a b) : nmW (a, b, 0) = (a, b) := by
  have q := nm_key h
  show (nmA a b 0, nmB a b 0) = (a, b); rw [q.1, q.2]
theorem line_con (w : World) (mean : ExcName → Option Value) (mg mb : Str → Option Value) (cz : List Nat) (lx dl fdd fs rd l pb : Nat) (fdx : FuncData) (k1 k2 k3 k4 tl tw kr tp : Tok) (ln : Int) (p n e : Nat) (fr : FuncData) (fix rest : List (Addr × Obj)) (ws : List (Str × Tok)) (qs : List Wd)
   (I : LexIn w mean mg mb cz lx dl fdd fs rd l fdx kr fr fix rest) (n4 : ∀ q ∈ rest, q.1 ≠ pb) (n5 : pb ≠ dl) (n6 : pb ≠ l) (hp : cz.drop p = []) (hws : ws.map Prod.fst = qs.map txt) (hok : ∀ q ∈ qs, okW q) (hl : qs.length ≤ 5) :
   ConC w mean mg mb 162 ((pb, listOf (strsL ws) e) :: (dl, lexD w k1 k2 k3 k4 tl tw ln fs pb) :: (l, listOf #[.int (p : Int) tp] n) :: rest) [.ref lx] 8
     (fun news' v => ∃ D g h t1 t2 n1 tl' p' e' n' t3, v = .ref D ∧ Nm0 g h ∧ Same [(g, h)] (qs.map nmW) ∧ cz.drop p' = [] ∧
       news' = (D, pairO (.int g t1) (.int h t2) n1) :: (pb, listOf #[] e') :: (dl, lexD w k1 k2 k3 k4 tl' tw ln fs pb) :: (l, listOf #[.int ((p' : Nat) : Int) t3] n') :: rest ∧ (∀ q ∈ rest, q.1 < D) ∧ pb < D ∧ dl < D ∧ l < D) := by
  have hlw : ws.length = qs.length := by simpa using congrArg List.length hws
  have hx1 := I.h1
  unfold ConC; k_fill
  intro pr ls dp un gd cn cs a ccd cl outer A₀ base h₀ L m s Q E HC B F X N T hk hd hu hret
  ((refine wpAny_call ?_; k_dflt ktr_enter; refine acut ?_; intro _))
  (repeat' ((fail_if_success (with_reducible show wpAny _ _ (exec (Stmt.While _ _ _ _) _) _ _ _)); (fail_if_success (with_reducible show wpAny _ _ (call (Value.ref 91) _) _ _ _)); (fail_if_success (with_reducible show wpAny _ _ (call (Value.ref 98) _) _ _ _)); (fail_if_success (with_reducible show wpAny _ _ (call (Value.ref 152) _) _ _ _)); (fail_if_success (with_reducible show wpAny _ _ (call (Value.builtin "sorted") _) _ _ _)); first | (k_unfold; (try dsimp only)) | (k_end; wrow_close) | (with_reducible ((k_here; k_dflt (first | ((with_reducible show wpAny _ _ (compareOp _ (Value.str (W3 _ _ _) _) _) _ _ _); refine' ne_w3 ?_) | ((with_reducible show wpAny _ _ (compareOp _ (Value.str (Str.mk _) _) _) _ _ _); refine' ne_no ?_))))) | ((with_reducible show wpAny _ _ (execs (_ :: _) _) _ _ _); with_reducible ((refine execs_cut ?_; intro _ _))) | ((with_reducible show wpAny _ _ (callWith _ (Value.ref _) _ _ _) _ _ _); with_reducible ((k_here; k_dflt (first | (refine' callWith_K ?k1 ?k2 ?_; (case k1 => k_asm); (case k2 => k_is); k_whole) | (refine' callWith_K0 ?k1 ?k2 ?_; (case k1 => k_in); (case k2 => k_is); k_whole))))) | ((with_reducible show wpAny _ _ (binaryOp .Mult (Value.int _ _) (Value.float _ _)) _ _ _); with_reducible ((k_here; k_dflt (refine' mulif_safe ?k1 ?_; (case k1 => omega); k_whole)))) | ((with_reducible show wpAny _ _ (binaryOp .Mult (Value.float _ _) (Value.int _ _)) _ _ _); with_reducible ((k_here; k_dflt (refine' mulfi_safe ?k1 ?_; (case k1 => omega); k_whole)))) | ((with_reducible show wpAny _ _ (binaryOp .Mod (Value.float _ _) (Value.float _ _)) _ _ _); with_reducible ((k_here; k_dflt (refine' fmod_safe ?k1 ?k2 ?_; (case k1 => with_unfolding_all rfl); (case k2 => decide +kernel); k_whole)))) | ((with_reducible show wpAny _ _ (binaryOp .Div (Value.float _ _) (Value.float _ _)) _ _ _); with_reducible ((k_here; k_dflt (refine' fdiv_safe ?k1 ?k2 ?_; (case k1 => with_unfolding_all rfl); (case k2 => decide +kernel); k_whole)))) | ((with_reducible show wpAny _ _ (binaryOp .Div (Value.int _ _) (Value.int _ _)) _ _ _); with_reducible ((k_here; k_dflt (refine' div_safe ?k1 ?k2 ?k3 ?_; (case k1 => with_unfolding_all rfl); (case k2 => omega); (case k3 => omega); k_whole)))) | ((with_reducible show wpAny _ _ (call (Value.builtin "min") _) _ _ _); with_reducible ((k_here; (with_reducible show wpAny _ _ (call (Value.builtin _) [Value.int _ _, Value.int _ _, Value.int _ _]) _ _ _); k_dflt (refine' min3_N ?k1 ?k2 ?k3 ?_; (case k1 => with_unfolding_all rfl); (case k2 => k_asm); (case k3 => k_asm); k_whole); intro h' tk' tt' F' N'; (try k_sweep)))) | ((with_reducible show wpAny _ _ (call (Value.builtin "max") _) _ _ _); with_reducible ((k_here; (with_reducible show wpAny _ _ (call (Value.builtin _) [Value.int _ _, Value.int _ _, Value.int _ _]) _ _ _); k_dflt (refine' max3_N ?k1 ?k2 ?k3 ?_; (case k1 => with_unfolding_all rfl); (case k2 => k_asm); (case k3 => k_asm); k_whole); intro h' tk' tt' F' N'; (try k_sweep)))) | walk1 | dsimp only | (leave1; walk_say "STEP leave1"; try dsimp only) | fail "no step"))
  refine' (next_con w mean mg mb cz lx dl fdd fs rd l pb fdx k1 k2 k3 k4 tl tw kr tp ln p n e fr fix rest ws I n4 n5 n6 hp (by omega)) _ _ _ _ _ _ _ _ _ _ _ _ _ _ _ _ _ _ _ ?k0 ?k1 ?k2 ?k3 ?k4 ?k5 ?kK ?kd ?ku ?_
  (((case k0 => assumption); (case k1 => first | k_asm | ktn_no "the frames below"); (case k2 => first | k_asm | ktn_no "the frame"); (case k3 => first | k_asm | ktn_no "the written part"); (case k4 => first | k_asm | ktn_no "the ledger"); (case k5 => first | k_asm | ktn_no "the top"); (case kK => first | exact rfl | assumption | ktn_no "no def"); (case kd => first | ktr_room | ktn_no "the room"); (case ku => first | ktr_units | ktn_no "the units")))
  intro v' news' h' tk' F1 N1 hr'
  obtain ⟨t1, t2, n1, tl1, p1, e1, hp1, hv', hn'⟩ := hr'
  subst hv' hn'
  (repeat' ((fail_if_success (with_reducible show wpAny _ _ (exec (Stmt.While _ _ _ _) _) _ _ _)); (fail_if_success (with_reducible show wpAny _ _ (call (Value.ref 91) _) _ _ _)); (fail_if_success (with_reducible show wpAny _ _ (call (Value.ref 98) _) _ _ _)); (fail_if_success (with_reducible show wpAny _ _ (call (Value.ref 152) _) _ _ _)); (fail_if_success (with_reducible show wpAny _ _ (call (Value.builtin "sorted") _) _ _ _)); first | (k_unfold; (try dsimp only)) | (k_end; wrow_close) | (with_reducible ((k_here; k_dflt (first | ((with_reducible show wpAny _ _ (compareOp _ (Value.str (W3 _ _ _) _) _) _ _ _); refine' ne_w3 ?_) | ((with_reducible show wpAny _ _ (compareOp _ (Value.str (Str.mk _) _) _) _ _ _); refine' ne_no ?_))))) | ((with_reducible show wpAny _ _ (execs (_ :: _) _) _ _ _); with_reducible ((refine execs_cut ?_; intro _ _))) | ((with_reducible show wpAny _ _ (callWith _ (Value.ref _) _ _ _) _ _ _); with_reducible ((k_here; k_dflt (first | (refine' callWith_K ?k1 ?k2 ?_; (case k1 => k_asm); (case k2 => k_is); k_whole) | (refine' callWith_K0 ?k1 ?k2 ?_; (case k1 => k_in); (case k2 => k_is); k_whole))))) | ((with_reducible show wpAny _ _ (binaryOp .Mult (Value.int _ _) (Value.float _ _)) _ _ _); with_reducible ((k_here; k_dflt (refine' mulif_safe ?k1 ?_; (case k1 => omega); k_whole)))) | ((with_reducible show wpAny _ _ (binaryOp .Mult (Value.float _ _) (Value.int _ _)) _ _ _); with_reducible ((k_here; k_dflt (refine' mulfi_safe ?k1 ?_; (case k1 => omega); k_whole)))) | ((with_reducible show wpAny _ _ (binaryOp .Mod (Value.float _ _) (Value.float _ _)) _ _ _); with_reducible ((k_here; k_dflt (refine' fmod_safe ?k1 ?k2 ?_; (case k1 => with_unfolding_all rfl); (case k2 => decide +kernel); k_whole)))) | ((with_reducible show wpAny _ _ (binaryOp .Div (Value.float _ _) (Value.float _ _)) _ _ _); with_reducible ((k_here; k_dflt (refine' fdiv_safe ?k1 ?k2 ?_; (case k1 => with_unfolding_all rfl); (case k2 => decide +kernel); k_whole)))) | ((with_reducible show wpAny _ _ (binaryOp .Div (Value.int _ _) (Value.int _ _)) _ _ _); with_reducible ((k_here; k_dflt (refine' div_safe ?k1 ?k2 ?k3 ?_; (case k1 => with_unfolding_all rfl); (case k2 => omega); (case k3 => omega); k_whole)))) | ((with_reducible show wpAny _ _ (call (Value.builtin "min") _) _ _ _); with_reducible ((k_here; (with_reducible show wpAny _ _ (call (Value.builtin _) [Value.int _ _, Value.int _ _, Value.int _ _]) _ _ _); k_dflt (refine' min3_N ?k1 ?k2 ?k3 ?_; (case k1 => with_unfolding_all rfl); (case k2 => k_asm); (case k3 => k_asm); k_whole); intro h' tk' tt' F' N'; (try k_sweep)))) | ((with_reducible show wpAny _ _ (call (Value.builtin "max") _) _ _ _); with_reducible ((k_here; (with_reducible show wpAny _ _ (call (Value.builtin _) [Value.int _ _, Value.int _ _, Value.int _ _]) _ _ _); k_dflt (refine' max3_N ?k1 ?k2 ?k3 ?_; (case k1 => with_unfolding_all rfl); (case k2 => k_asm); (case k3 => k_asm); k_whole); intro h' tk' tt' F' N'; (try k_sweep)))) | walk1 | dsimp only | (leave1; walk_say "STEP leave1"; try dsimp only) | fail "no step"))
  refine' (next_con w mean mg mb cz lx dl fdd fs rd l pb fdx k1 k2 k3 k4 tl1 tw kr t2 ln p1 n1 e1 fr fix rest ws.tail I n4 n5 n6 hp1 (by simp; omega)) _ _ _ _ _ _ _ _ _ _ _ _ _ _ _ _ _ _ _ ?k0 ?k1 ?k2 ?k3 ?k4 ?k5 ?kK ?kd ?ku ?_
  (((case k0 => assumption); (case k1 => first | k_asm | ktn_no "the frames below"); (case k2 => first | k_asm | ktn_no "the frame"); (case k3 => first | k_asm | ktn_no "the written part"); (case k4 => first | k_asm | ktn_no "the ledger"); (case k5 => first | k_asm | ktn_no "the top"); (case kK => first | exact rfl | assumption | ktn_no "no def"); (case kd => first | ktr_room | ktn_no "the room"); (case ku => first | ktr_units | ktn_no "the units")))
  intro v' news' h' tk' F2 N2 hr'
  obtain ⟨t3, t4, n2, tl2, p2, e2, hp2, hv', hn'⟩ := hr'
  subst hv' hn'
  rw [qHd_is hws, qHd_is (tail_is hws)]
  have hws2 := tail_is (tail_is hws)
  (repeat' ((fail_if_success (with_reducible show wpAny _ _ (exec (Stmt.While _ _ _ _) _) _ _ _)); (fail_if_success (with_reducible show wpAny _ _ (call (Value.ref 91) _) _ _ _)); (fail_if_success (with_reducible show wpAny _ _ (call (Value.ref 98) _) _ _ _)); (fail_if_success (with_reducible show wpAny _ _ (call (Value.ref 152) _) _ _ _)); (fail_if_success (with_reducible show wpAny _ _ (call (Value.builtin "sorted") _) _ _ _)); first | (k_unfold; (try dsimp only)) | (k_end; wrow_close) | (with_reducible ((k_here; k_dflt (first | ((with_reducible show wpAny _ _ (compareOp _ (Value.str (W3 _ _ _) _) _) _ _ _); refine' ne_w3 ?_) | ((with_reducible show wpAny _ _ (compareOp _ (Value.str (Str.mk _) _) _) _ _ _); refine' ne_no ?_))))) | ((with_reducible show wpAny _ _ (execs (_ :: _) _) _ _ _); with_reducible ((refine execs_cut ?_; intro _ _))) | ((with_reducible show wpAny _ _ (callWith _ (Value.ref _) _ _ _) _ _ _); with_reducible ((k_here; k_dflt (first | (refine' callWith_K ?k1 ?k2 ?_; (case k1 => k_asm); (case k2 => k_is); k_whole) | (refine' callWith_K0 ?k1 ?k2 ?_; (case k1 => k_in); (case k2 => k_is); k_whole))))) | ((with_reducible show wpAny _ _ (binaryOp .Mult (Value.int _ _) (Value.float _ _)) _ _ _); with_reducible ((k_here; k_dflt (refine' mulif_safe ?k1 ?_; (case k1 => omega); k_whole)))) | ((with_reducible show wpAny _ _ (binaryOp .Mult (Value.float _ _) (Value.int _ _)) _ _ _); with_reducible ((k_here; k_dflt (refine' mulfi_safe ?k1 ?_; (case k1 => omega); k_whole)))) | ((with_reducible show wpAny _ _ (binaryOp .Mod (Value.float _ _) (Value.float _ _)) _ _ _); with_reducible ((k_here; k_dflt (refine' fmod_safe ?k1 ?k2 ?_; (case k1 => with_unfolding_all rfl); (case k2 => decide +kernel); k_whole)))) | ((with_reducible show wpAny _ _ (binaryOp .Div (Value.float _ _) (Value.float _ _)) _ _ _); with_reducible ((k_here; k_dflt (refine' fdiv_safe ?k1 ?k2 ?_; (case k1 => with_unfolding_all rfl); (case k2 => decide +kernel); k_whole)))) | ((with_reducible show wpAny _ _ (binaryOp .Div (Value.int _ _) (Value.int _ _)) _ _ _); with_reducible ((k_here; k_dflt (refine' div_safe ?k1 ?k2 ?k3 ?_; (case k1 => with_unfolding_all rfl); (case k2 => omega); (case k3 => omega); k_whole)))) | ((with_reducible show wpAny _ _ (call (Value.builtin "min") _) _ _ _); with_reducible ((k_here; (with_reducible show wpAny _ _ (call (Value.builtin _) [Value.int _ _, Value.int _ _, Value.int _ _]) _ _ _); k_dflt (refine' min3_N ?k1 ?k2 ?k3 ?_; (case k1 => with_unfolding_all rfl); (case k2 => k_asm); (case k3 => k_asm); k_whole); intro h' tk' tt' F' N'; (try k_sweep)))) | ((with_reducible show wpAny _ _ (call (Value.builtin "max") _) _ _ _); with_reducible ((k_here; (with_reducible show wpAny _ _ (call (Value.builtin _) [Value.int _ _, Value.int _ _, Value.int _ _]) _ _ _); k_dflt (refine' max3_N ?k1 ?k2 ?k3 ?_; (case k1 => with_unfolding_all rfl); (case k2 => k_asm); (case k3 => k_asm); k_whole); intro h' tk' tt' F' N'; (try k_sweep)))) | walk1 | dsimp only | (leave1; walk_say "STEP leave1"; try dsimp only) | fail "no step"))
  rename Fr _ _ _ _ => F3
  rename News _ _ _ _ => N3
  refine While_inv2L (fun nn m1 news1 => ∃ (m' : Str → Option Value) (qs' : List Wd) (ws' : List (Str × Tok)) (tf tb tl' t2' : Tok) (p' e' n' : Nat), m1 = (fun y => if y = Str.ofString "lexer" then some (.ref lx) else if y = Str.ofString "front" then some (.str (qTxt qs') tf) else if y = Str.ofString "behind" then some (.str (qTxt (qs'.drop 1)) tb) else m' y) ∧
      news1 = (pb, listOf (strsL ws') e') :: (dl, lexD w k1 k2 k3 k4 tl' tw ln fs pb) :: (l, listOf #[.int (p' : Int) t2'] n') :: rest ∧ cz.drop p' = [] ∧ ws'.map Prod.fst = (qs'.drop 2).map txt ∧ (∀ q ∈ qs', okW q) ∧ qs'.length ≤ 5 ∧ Same (qs'.map nmW) (qs.map nmW) ∧ nn = (qs'.map nN).sum)
    F3 (drop1 N3) ⟨_, qs, ws.tail.tail, t1, t3, tl2, t4, p2, e2, n2, pins3 rfl rfl rfl, rfl, hp2, by rw [hws2]; simp, hok, hl, Same.refl _, rfl⟩ ?_
  clear F3 N3 hws2 hws hlw
  intro nn m1 news1 h1 tk1 F3 N3 J W9
  obtain ⟨m', qs', ws', tf, tb, tl', t2', p', e', n', rfl, rfl, hp', hws', hok', hl', hsame, hn⟩ := J
  rcases qs' with _ | ⟨⟨i, j, k⟩, _ | ⟨⟨i2, j2, k2'⟩, r⟩⟩
  · obtain rfl : ws' = [] := by simpa using hws'
    dsimp only [qTxt, List.drop] at F3
    (repeat' ((fail_if_success (with_reducible show wpAny _ _ (exec (Stmt.While _ _ _ _) _) _ _ _)); (fail_if_success (with_reducible show wpAny _ _ (call (Value.ref 91) _) _ _ _)); (fail_if_success (with_reducible show wpAny _ _ (call (Value.ref 98) _) _ _ _)); (fail_if_success (with_reducible show wpAny _ _ (call (Value.ref 152) _) _ _ _)); (fail_if_success (with_reducible show wpAny _ _ (call (Value.builtin "sorted") _) _ _ _)); first | (k_unfold; (try dsimp only)) | (k_end; wrow_close) | (with_reducible ((k_here; k_dflt (first | ((with_reducible show wpAny _ _ (compareOp _ (Value.str (W3 _ _ _) _) _) _ _ _); refine' ne_w3 ?_) | ((with_reducible show wpAny _ _ (compareOp _ (Value.str (Str.mk _) _) _) _ _ _); refine' ne_no ?_))))) | ((with_reducible show wpAny _ _ (execs (_ :: _) _) _ _ _); with_reducible ((refine execs_cut ?_; intro _ _))) | ((with_reducible show wpAny _ _ (callWith _ (Value.ref _) _ _ _) _ _ _); with_reducible ((k_here; k_dflt (first | (refine' callWith_K ?k1 ?k2 ?_; (case k1 => k_asm); (case k2 => k_is); k_whole) | (refine' callWith_K0 ?k1 ?k2 ?_; (case k1 => k_in); (case k2 => k_is); k_whole))))) | ((with_reducible show wpAny _ _ (binaryOp .Mult (Value.int _ _) (Value.float _ _)) _ _ _); with_reducible ((k_here; k_dflt (refine' mulif_safe ?k1 ?_; (case k1 => omega); k_whole)))) | ((with_reducible show wpAny _ _ (binaryOp .Mult (Value.float _ _) (Value.int _ _)) _ _ _); with_reducible ((k_here; k_dflt (refine' mulfi_safe ?k1 ?_; (case k1 => omega); k_whole)))) | ((with_reducible show wpAny _ _ (binaryOp .Mod (Value.float _ _) (Value.float _ _)) _ _ _); with_reducible ((k_here; k_dflt (refine' fmod_safe ?k1 ?k2 ?_; (case k1 => with_unfolding_all rfl); (case k2 => decide +kernel); k_whole)))) | ((with_reducible show wpAny _ _ (binaryOp .Div (Value.float _ _) (Value.float _ _)) _ _ _); with_reducible ((k_here; k_dflt (refine' fdiv_safe ?k1 ?k2 ?_; (case k1 => with_unfolding_all rfl); (case k2 => decide +kernel); k_whole)))) | ((with_reducible show wpAny _ _ (binaryOp .Div (Value.int _ _) (Value.int _ _)) _ _ _); with_reducible ((k_here; k_dflt (refine' div_safe ?k1 ?k2 ?k3 ?_; (case k1 => with_unfolding_all rfl); (case k2 => omega); (case k3 => omega); k_whole)))) | ((with_reducible show wpAny _ _ (call (Value.builtin "min") _) _ _ _); with_reducible ((k_here; (with_reducible show wpAny _ _ (call (Value.builtin _) [Value.int _ _, Value.int _ _, Value.int _ _]) _ _ _); k_dflt (refine' min3_N ?k1 ?k2 ?k3 ?_; (case k1 => with_unfolding_all rfl); (case k2 => k_asm); (case k3 => k_asm); k_whole); intro h' tk' tt' F' N'; (try k_sweep)))) | ((with_reducible show wpAny _ _ (call (Value.builtin "max") _) _ _ _); with_reducible ((k_here; (with_reducible show wpAny _ _ (call (Value.builtin _) [Value.int _ _, Value.int _ _, Value.int _ _]) _ _ _); k_dflt (refine' max3_N ?k1 ?k2 ?k3 ?_; (case k1 => with_unfolding_all rfl); (case k2 => k_asm); (case k3 => k_asm); k_whole); intro h' tk' tt' F' N'; (try k_sweep)))) | walk1 | dsimp only | (leave1; walk_say "STEP leave1"; try dsimp only) | fail "no step"))
    rename (_ ∧ _ ∧ _ ∧ AllLt _ rest) => lz
    refine hret _ _ _ _ (by k_asm) (by k_asm) ⟨_, 0, 0, _, _, _, _, _, _, _, _, rfl, Or.inr ⟨rfl, rfl⟩, (Same.zero (xs := [])).trans hsame, hp', rfl, ktn_ltOf lz.2.2.2, lz.1, lz.2.1, lz.2.2.1⟩
  · obtain ⟨⟨s1, s2, s3⟩, nmx⟩ := hok' _ (.head _)
    obtain rfl : ws' = [] := by simpa using hws'
    dsimp only [nmW] at nmx s1 s2 s3
    dsimp only [qTxt, List.drop, txt] at F3
    (repeat' ((fail_if_success (with_reducible show wpAny _ _ (exec (Stmt.While _ _ _ _) _) _ _ _)); (fail_if_success (with_reducible show wpAny _ _ (call (Value.ref 91) _) _ _ _)); (fail_if_success (with_reducible show wpAny _ _ (call (Value.ref 98) _) _ _ _)); (fail_if_success (with_reducible show wpAny _ _ (call (Value.ref 152) _) _ _ _)); (fail_if_success (with_reducible show wpAny _ _ (call (Value.builtin "sorted") _) _ _ _)); first | (k_unfold; (try dsimp only)) | (k_end; wrow_close) | (with_reducible ((k_here; k_dflt (first | ((with_reducible show wpAny _ _ (compareOp _ (Value.str (W3 _ _ _) _) _) _ _ _); refine' ne_w3 ?_) | ((with_reducible show wpAny _ _ (compareOp _ (Value.str (Str.mk _) _) _) _ _ _); refine' ne_no ?_))))) | ((with_reducible show wpAny _ _ (execs (_ :: _) _) _ _ _); with_reducible ((refine execs_cut ?_; intro _ _))) | ((with_reducible show wpAny _ _ (callWith _ (Value.ref _) _ _ _) _ _ _); with_reducible ((k_here; k_dflt (first | (refine' callWith_K ?k1 ?k2 ?_; (case k1 => k_asm); (case k2 => k_is); k_whole) | (refine' callWith_K0 ?k1 ?k2 ?_; (case k1 => k_in); (case k2 => k_is); k_whole))))) | ((with_reducible show wpAny _ _ (binaryOp .Mult (Value.int _ _) (Value.float _ _)) _ _ _); with_reducible ((k_here; k_dflt (refine' mulif_safe ?k1 ?_; (case k1 => omega); k_whole)))) | ((with_reducible show wpAny _ _ (binaryOp .Mult (Value.float _ _) (Value.int _ _)) _ _ _); with_reducible ((k_here; k_dflt (refine' mulfi_safe ?k1 ?_; (case k1 => omega); k_whole)))) | ((with_reducible show wpAny _ _ (binaryOp .Mod (Value.float _ _) (Value.float _ _)) _ _ _); with_reducible ((k_here; k_dflt (refine' fmod_safe ?k1 ?k2 ?_; (case k1 => with_unfolding_all rfl); (case k2 => decide +kernel); k_whole)))) | ((with_reducible show wpAny _ _ (binaryOp .Div (Value.float _ _) (Value.float _ _)) _ _ _); with_reducible ((k_here; k_dflt (refine' fdiv_safe ?k1 ?k2 ?_; (case k1 => with_unfolding_all rfl); (case k2 => decide +kernel); k_whole)))) | ((with_reducible show wpAny _ _ (binaryOp .Div (Value.int _ _) (Value.int _ _)) _ _ _); with_reducible ((k_here; k_dflt (refine' div_safe ?k1 ?k2 ?k3 ?_; (case k1 => with_unfolding_all rfl); (case k2 => omega); (case k3 => omega); k_whole)))) | ((with_reducible show wpAny _ _ (call (Value.builtin "min") _) _ _ _); with_reducible ((k_here; (with_reducible show wpAny _ _ (call (Value.builtin _) [Value.int _ _, Value.int _ _, Value.int _ _]) _ _ _); k_dflt (refine' min3_N ?k1 ?k2 ?k3 ?_; (case k1 => with_unfolding_all rfl); (case k2 => k_asm); (case k3 => k_asm); k_whole); intro h' tk' tt' F' N'; (try k_sweep)))) | ((with_reducible show wpAny _ _ (call (Value.builtin "max") _) _ _ _); with_reducible ((k_here; (with_reducible show wpAny _ _ (call (Value.builtin _) [Value.int _ _, Value.int _ _, Value.int _ _]) _ _ _); k_dflt (refine' max3_N ?k1 ?k2 ?k3 ?_; (case k1 => with_unfolding_all rfl); (case k2 => k_asm); (case k3 => k_asm); k_whole); intro h' tk' tt' F' N'; (try k_sweep)))) | walk1 | dsimp only | (leave1; walk_say "STEP leave1"; try dsimp only) | fail "no step"))
    rename (_ ∧ _ ∧ _ ∧ AllLt _ rest) => lz
    refine hret _ _ _ _ (by k_asm) (by k_asm) ⟨_, _, _, _, _, _, _, _, _, _, _, rfl, Or.inl nmx, hsame, hp', rfl, ktn_ltOf lz.2.2.2, lz.1, lz.2.1, lz.2.2.1⟩
  · obtain ⟨⟨s1, s2, s3⟩, nmx⟩ := hok' _ (.head _)
    obtain ⟨⟨s4, s5, s6⟩, nmy⟩ := hok' _ (.tail _ (.head _))
    dsimp only [nmW] at nmx nmy s1 s2 s3 s4 s5 s6
    dsimp only [qTxt, List.drop, txt] at F3
    have bx := nmx
    have bz := nmy
    unfold Nm at bx bz
    (repeat' ((fail_if_success (with_reducible show wpAny _ _ (exec (Stmt.While _ _ _ _) _) _ _ _)); (fail_if_success (with_reducible show wpAny _ _ (call (Value.ref 91) _) _ _ _)); (fail_if_success (with_reducible show wpAny _ _ (call (Value.ref 98) _) _ _ _)); (fail_if_success (with_reducible show wpAny _ _ (call (Value.ref 152) _) _ _ _)); (fail_if_success (with_reducible show wpAny _ _ (call (Value.builtin "sorted") _) _ _ _)); first | (k_unfold; (try dsimp only)) | (k_end; wrow_close) | (with_reducible ((k_here; k_dflt (first | ((with_reducible show wpAny _ _ (compareOp _ (Value.str (W3 _ _ _) _) _) _ _ _); refine' ne_w3 ?_) | ((with_reducible show wpAny _ _ (compareOp _ (Value.str (Str.mk _) _) _) _ _ _); refine' ne_no ?_))))) | ((with_reducible show wpAny _ _ (execs (_ :: _) _) _ _ _); with_reducible ((refine execs_cut ?_; intro _ _))) | ((with_reducible show wpAny _ _ (callWith _ (Value.ref _) _ _ _) _ _ _); with_reducible ((k_here; k_dflt (first | (refine' callWith_K ?k1 ?k2 ?_; (case k1 => k_asm); (case k2 => k_is); k_whole) | (refine' callWith_K0 ?k1 ?k2 ?_; (case k1 => k_in); (case k2 => k_is); k_whole))))) | ((with_reducible show wpAny _ _ (binaryOp .Mult (Value.int _ _) (Value.float _ _)) _ _ _); with_reducible ((k_here; k_dflt (refine' mulif_safe ?k1 ?_; (case k1 => omega); k_whole)))) | ((with_reducible show wpAny _ _ (binaryOp .Mult (Value.float _ _) (Value.int _ _)) _ _ _); with_reducible ((k_here; k_dflt (refine' mulfi_safe ?k1 ?_; (case k1 => omega); k_whole)))) | ((with_reducible show wpAny _ _ (binaryOp .Mod (Value.float _ _) (Value.float _ _)) _ _ _); with_reducible ((k_here; k_dflt (refine' fmod_safe ?k1 ?k2 ?_; (case k1 => with_unfolding_all rfl); (case k2 => decide +kernel); k_whole)))) | ((with_reducible show wpAny _ _ (binaryOp .Div (Value.float _ _) (Value.float _ _)) _ _ _); with_reducible ((k_here; k_dflt (refine' fdiv_safe ?k1 ?k2 ?_; (case k1 => with_unfolding_all rfl); (case k2 => decide +kernel); k_whole)))) | ((with_reducible show wpAny _ _ (binaryOp .Div (Value.int _ _) (Value.int _ _)) _ _ _); with_reducible ((k_here; k_dflt (refine' div_safe ?k1 ?k2 ?k3 ?_; (case k1 => with_unfolding_all rfl); (case k2 => omega); (case k3 => omega); k_whole)))) | ((with_reducible show wpAny _ _ (call (Value.builtin "min") _) _ _ _); with_reducible ((k_here; (with_reducible show wpAny _ _ (call (Value.builtin _) [Value.int _ _, Value.int _ _, Value.int _ _]) _ _ _); k_dflt (refine' min3_N ?k1 ?k2 ?k3 ?_; (case k1 => with_unfolding_all rfl); (case k2 => k_asm); (case k3 => k_asm); k_whole); intro h' tk' tt' F' N'; (try k_sweep)))) | ((with_reducible show wpAny _ _ (call (Value.builtin "max") _) _ _ _); with_reducible ((k_here; (with_reducible show wpAny _ _ (call (Value.builtin _) [Value.int _ _, Value.int _ _, Value.int _ _]) _ _ _); k_dflt (refine' max3_N ?k1 ?k2 ?k3 ?_; (case k1 => with_unfolding_all rfl); (case k2 => k_asm); (case k3 => k_asm); k_whole); intro h' tk' tt' F' N'; (try k_sweep)))) | walk1 | dsimp only | (leave1; walk_say "STEP leave1"; try dsimp only) | fail "no step"))
    k_here; k_dflt (refine' sort2_M ?k1 ?k2 ?k3 ?k4 ?k5 ?k6 ?k7 ?k8 ?k9 ?ka ?kb ?_; (case k1 => exact rfl); (case k2 => ktr_units); (case k3 => k_asm); (case k4 => k_asm); (case k5 => first | k_mem | fail); (case k6 => first | k_mem | fail); (case k7 => first | k_mem | fail); (case k8 => first | k_mem | fail); (case k9 => first | k_mem | fail); (case ka => assumption); (case kb => assumption))
    intro D3 h3 tk3 lo hi e3 lo1 hi1 a' b' c' d' y1 y2 y3 y4 y5 y6 z1 z2 z3 z4 F4 N4 l4 mlo mlo1 mhi mhi1 nlo nhi hle hor
    replace N4 : News _ _ h3 ((D3, listOf #[.ref lo, .ref hi] e3) :: (lo, pairO (.int (nrm a' b') y1) (.ref lo1) z1) :: (lo1, pairO (.int a' y2) (.int b' y3) z2) :: (hi, pairO (.int (nrm c' d') y4) (.ref hi1) z3) :: (hi1, pairO (.int c' y5) (.int d' y6) z4) :: (pb, listOf (strsL ws') e') :: (dl, lexD w k1 k2 k3 k4 tl' tw ln fs pb) :: (l, listOf #[.int (p' : Int) t2'] n') :: rest) := Mine.News.sub N4 (by
      intro q hq
      simp only [List.mem_cons] at hq
      rcases hq with h | h | h | h | h | h | h | h | h
      · subst h; exact .head _
      · subst h; exact .tail _ mlo
      · subst h; exact .tail _ mlo1
      · subst h; exact .tail _ mhi
      · subst h; exact .tail _ mhi1
      · subst h; ((repeat (first | exact List.Mem.head _ | apply List.Mem.tail)))
      · subst h; ((repeat (first | exact List.Mem.head _ | apply List.Mem.tail)))
      · subst h; ((repeat (first | exact List.Mem.head _ | apply List.Mem.tail)))
      · simp [h])
    clear mlo mlo1 mhi mhi1
    have ba := nlo
    have bc := nhi
    unfold Nm at ba bc
    (repeat' ((fail_if_success (with_reducible show wpAny _ _ (exec (Stmt.While _ _ _ _) _) _ _ _)); (fail_if_success (with_reducible show wpAny _ _ (call (Value.ref 91) _) _ _ _)); (fail_if_success (with_reducible show wpAny _ _ (call (Value.ref 98) _) _ _ _)); (fail_if_success (with_reducible show wpAny _ _ (call (Value.ref 152) _) _ _ _)); (fail_if_success (with_reducible show wpAny _ _ (call (Value.builtin "sorted") _) _ _ _)); first | (k_unfold; (try dsimp only)) | (k_end; wrow_close) | (with_reducible ((k_here; k_dflt (first | ((with_reducible show wpAny _ _ (compareOp _ (Value.str (W3 _ _ _) _) _) _ _ _); refine' ne_w3 ?_) | ((with_reducible show wpAny _ _ (compareOp _ (Value.str (Str.mk _) _) _) _ _ _); refine' ne_no ?_))))) | ((with_reducible show wpAny _ _ (execs (_ :: _) _) _ _ _); with_reducible ((refine execs_cut ?_; intro _ _))) | ((with_reducible show wpAny _ _ (callWith _ (Value.ref _) _ _ _) _ _ _); with_reducible ((k_here; k_dflt (first | (refine' callWith_K ?k1 ?k2 ?_; (case k1 => k_asm); (case k2 => k_is); k_whole) | (refine' callWith_K0 ?k1 ?k2 ?_; (case k1 => k_in); (case k2 => k_is); k_whole))))) | ((with_reducible show wpAny _ _ (binaryOp .Mult (Value.int _ _) (Value.float _ _)) _ _ _); with_reducible ((k_here; k_dflt (refine' mulif_safe ?k1 ?_; (case k1 => omega); k_whole)))) | ((with_reducible show wpAny _ _ (binaryOp .Mult (Value.float _ _) (Value.int _ _)) _ _ _); with_reducible ((k_here; k_dflt (refine' mulfi_safe ?k1 ?_; (case k1 => omega); k_whole)))) | ((with_reducible show wpAny _ _ (binaryOp .Mod (Value.float _ _) (Value.float _ _)) _ _ _); with_reducible ((k_here; k_dflt (refine' fmod_safe ?k1 ?k2 ?_; (case k1 => with_unfolding_all rfl); (case k2 => decide +kernel); k_whole)))) | ((with_reducible show wpAny _ _ (binaryOp .Div (Value.float _ _) (Value.float _ _)) _ _ _); with_reducible ((k_here; k_dflt (refine' fdiv_safe ?k1 ?k2 ?_; (case k1 => with_unfolding_all rfl); (case k2 => decide +kernel); k_whole)))) | ((with_reducible show wpAny _ _ (binaryOp .Div (Value.int _ _) (Value.int _ _)) _ _ _); with_reducible ((k_here; k_dflt (refine' div_safe ?k1 ?k2 ?k3 ?_; (case k1 => with_unfolding_all rfl); (case k2 => omega); (case k3 => omega); k_whole)))) | ((with_reducible show wpAny _ _ (call (Value.builtin "min") _) _ _ _); with_reducible ((k_here; (with_reducible show wpAny _ _ (call (Value.builtin _) [Value.int _ _, Value.int _ _, Value.int _ _]) _ _ _); k_dflt (refine' min3_N ?k1 ?k2 ?k3 ?_; (case k1 => with_unfolding_all rfl); (case k2 => k_asm); (case k3 => k_asm); k_whole); intro h' tk' tt' F' N'; (try k_sweep)))) | ((with_reducible show wpAny _ _ (call (Value.builtin "max") _) _ _ _); with_reducible ((k_here; (with_reducible show wpAny _ _ (call (Value.builtin _) [Value.int _ _, Value.int _ _, Value.int _ _]) _ _ _); k_dflt (refine' max3_N ?k1 ?k2 ?k3 ?_; (case k1 => with_unfolding_all rfl); (case k2 => k_asm); (case k3 => k_asm); k_whole); intro h' tk' tt' F' N'; (try k_sweep)))) | walk1 | dsimp only | (leave1; walk_say "STEP leave1"; try dsimp only) | fail "no step"))
    k_here; k_dflt (refine' (rest_con _ _ _ _ hi1 lo1 c' d' a' b' _ _ _ _ _ _ _ ?ka ?kb nhi nlo) _ _ _ _ _ _ _ _ _ _ _ _ _ _ _ _ _ _ _ ?k1 ?k2 ?k3 ?k4 ?k5 ?kK ?kd ?ku ?_; (((case k1 => first | k_asm | ktn_no "the frames below"); (case k2 => first | k_asm | ktn_no "the frame"); (case k3 => first | k_asm | ktn_no "the written part"); (case k4 => first | k_asm | ktn_no "the ledger"); (case k5 => first | k_asm | ktn_no "the top"); (case kK => first | exact rfl | assumption | ktn_no "no def"); (case kd => first | ktr_room | ktn_no "the room"); (case ku => first | ktr_units | ktn_no "the units"))); (case ka => first | k_mem | fail); (case kb => first | k_mem | fail))
    intro v' news' h' tk' F5 N5 hr'
    obtain ⟨D9, t7', t8', hv', l5, hn'⟩ := hr'
    subst hv' hn'
    (repeat' ((fail_if_success (with_reducible show wpAny _ _ (exec (Stmt.While _ _ _ _) _) _ _ _)); (fail_if_success (with_reducible show wpAny _ _ (call (Value.ref 91) _) _ _ _)); (fail_if_success (with_reducible show wpAny _ _ (call (Value.ref 98) _) _ _ _)); (fail_if_success (with_reducible show wpAny _ _ (call (Value.ref 152) _) _ _ _)); (fail_if_success (with_reducible show wpAny _ _ (call (Value.builtin "sorted") _) _ _ _)); first | (k_unfold; (try dsimp only)) | (k_end; wrow_close) | (with_reducible ((k_here; k_dflt (first | ((with_reducible show wpAny _ _ (compareOp _ (Value.str (W3 _ _ _) _) _) _ _ _); refine' ne_w3 ?_) | ((with_reducible show wpAny _ _ (compareOp _ (Value.str (Str.mk _) _) _) _ _ _); refine' ne_no ?_))))) | ((with_reducible show wpAny _ _ (execs (_ :: _) _) _ _ _); with_reducible ((refine execs_cut ?_; intro _ _))) | ((with_reducible show wpAny _ _ (callWith _ (Value.ref _) _ _ _) _ _ _); with_reducible ((k_here; k_dflt (first | (refine' callWith_K ?k1 ?k2 ?_; (case k1 => k_asm); (case k2 => k_is); k_whole) | (refine' callWith_K0 ?k1 ?k2 ?_; (case k1 => k_in); (case k2 => k_is); k_whole))))) | ((with_reducible show wpAny _ _ (binaryOp .Mult (Value.int _ _) (Value.float _ _)) _ _ _); with_reducible ((k_here; k_dflt (refine' mulif_safe ?k1 ?_; (case k1 => omega); k_whole)))) | ((with_reducible show wpAny _ _ (binaryOp .Mult (Value.float _ _) (Value.int _ _)) _ _ _); with_reducible ((k_here; k_dflt (refine' mulfi_safe ?k1 ?_; (case k1 => omega); k_whole)))) | ((with_reducible show wpAny _ _ (binaryOp .Mod (Value.float _ _) (Value.float _ _)) _ _ _); with_reducible ((k_here; k_dflt (refine' fmod_safe ?k1 ?k2 ?_; (case k1 => with_unfolding_all rfl); (case k2 => decide +kernel); k_whole)))) | ((with_reducible show wpAny _ _ (binaryOp .Div (Value.float _ _) (Value.float _ _)) _ _ _); with_reducible ((k_here; k_dflt (refine' fdiv_safe ?k1 ?k2 ?_; (case k1 => with_unfolding_all rfl); (case k2 => decide +kernel); k_whole)))) | ((with_reducible show wpAny _ _ (binaryOp .Div (Value.int _ _) (Value.int _ _)) _ _ _); with_reducible ((k_here; k_dflt (refine' div_safe ?k1 ?k2 ?k3 ?_; (case k1 => with_unfolding_all rfl); (case k2 => omega); (case k3 => omega); k_whole)))) | ((with_reducible show wpAny _ _ (call (Value.builtin "min") _) _ _ _); with_reducible ((k_here; (with_reducible show wpAny _ _ (call (Value.builtin _) [Value.int _ _, Value.int _ _, Value.int _ _]) _ _ _); k_dflt (refine' min3_N ?k1 ?k2 ?k3 ?_; (case k1 => with_unfolding_all rfl); (case k2 => k_asm); (case k3 => k_asm); k_whole); intro h' tk' tt' F' N'; (try k_sweep)))) | ((with_reducible show wpAny _ _ (call (Value.builtin "max") _) _ _ _); with_reducible ((k_here; (with_reducible show wpAny _ _ (call (Value.builtin _) [Value.int _ _, Value.int _ _, Value.int _ _]) _ _ _); k_dflt (refine' max3_N ?k1 ?k2 ?k3 ?_; (case k1 => with_unfolding_all rfl); (case k2 => k_asm); (case k3 => k_asm); k_whole); intro h' tk' tt' F' N'; (try k_sweep)))) | walk1 | dsimp only | (leave1; walk_say "STEP leave1"; try dsimp only) | fail "no step"))
    rename_i t9 k9 a9
    rename Fr _ _ _ _ => F6
    rename News _ _ _ _ => N6
    have l6 : ∀ q ∈ rest, q.1 < D9 := fun q hq => l5 q (by simp [hq])
    have l7 : pb < D9 := l5 (pb, listOf (strsL ws') e') (by ((repeat (first | exact List.Mem.head _ | apply List.Mem.tail))))
    have l8 : dl < D9 := l5 (dl, lexD w k1 k2 k3 k4 tl' tw ln fs pb) (by ((repeat (first | exact List.Mem.head _ | apply List.Mem.tail))))
    have l9 : l < D9 := l5 (l, listOf #[.int (p' : Int) t2'] n') (by ((repeat (first | exact List.Mem.head _ | apply List.Mem.tail))))
    replace N6 : News _ _ _ ((pb, listOf (strsL ws') e') :: (dl, lexD w k1 k2 k3 k4 tl' tw ln fs pb) :: (D9, pairO (.int (rsA c' d' a' b') t7') (.int (rsB c' d' a' b') t8') 0) :: (l, listOf #[.int (p' : Int) t2'] n') :: rest) := Mine.News.sub N6 (by
      intro q hq
      simp only [List.mem_cons] at hq
      rcases hq with h | h | h | h | h
      · subst h; ((repeat (first | exact List.Mem.head _ | apply List.Mem.tail)))
      · subst h; ((repeat (first | exact List.Mem.head _ | apply List.Mem.tail)))
      · subst h; exact .head _
      · subst h; ((repeat (first | exact List.Mem.head _ | apply List.Mem.tail)))
      · simp [h])
    have hx2 : (lx, instObj 101 dl) ∈ (D9, pairO (.int (rsA c' d' a' b') t7') (.int (rsB c' d' a' b') t8') 0) :: (l, listOf #[.int (p' : Int) t2'] n') :: rest := .tail _ (.tail _ hx1)
    have n7 : ∀ q ∈ (D9, pairO (.int (rsA c' d' a' b') t7') (.int (rsB c' d' a' b') t8') 0) :: (l, listOf #[.int (p' : Int) t2'] n') :: rest, q.1 ≠ pb := List.forall_mem_cons.mpr ⟨Nat.ne_of_gt l7, List.forall_mem_cons.mpr ⟨Ne.symm n6, n4⟩⟩
    have hS := line_same (R := r.map nmW) (x := nmW (i, j, k)) (y := nmW (i2, j2, k2')) nhi nlo (by
      rcases hor with ⟨e1, e2, e3, e4⟩ | ⟨e1, e2, e3, e4⟩
      · exact Or.inl ⟨by rw [e1, e2]; rfl, by rw [e3, e4]; rfl⟩
      · exact Or.inr ⟨by rw [e3, e4]; rfl, by rw [e1, e2]; rfl⟩)
    have hN : nN (i, j, k) + nN (i2, j2, k2') = (nrm a' b').toNat + (nrm c' d').toNat := by
      rcases hor with ⟨e1, e2, e3, e4⟩ | ⟨e1, e2, e3, e4⟩
      · rw [e1, e2, e3, e4]; rfl
      · rw [e1, e2, e3, e4, Nat.add_comm]; rfl
    have hrest := (rest_all nhi nlo).2.2.2
    have hlr : r.length ≤ 3 := by simp at hl'; omega
    have hlw : ws'.length = r.length := by have := congrArg List.length hws'; simpa using this
    have hokr : ∀ q ∈ r, okW q := fun q hq => hok' q (.tail _ (.tail _ hq))
    have hws3 : ws'.map Prod.fst = r.map txt := by simpa using hws'
    rw [key_txt (show Seven a' by unfold Seven; omega) (show Seven b' by unfold Seven; omega)]
    refine' (push_pb w mean mg mb lx dl fs pb k1 k2 k3 k4 tl' tw ln e' (W3 a' b' 0) t9 ws' _ hx2 n7 (Ne.symm n5) (by omega)) _ _ _ _ _ _ _ _ _ _ _ _ _ _ _ _ _ _ _ ?k1 ?k2 ?k3 ?k4 ?k5 ?kK ?kd ?ku ?_
    (((case k1 => first | k_asm | ktn_no "the frames below"); (case k2 => first | k_asm | ktn_no "the frame"); (case k3 => first | k_asm | ktn_no "the written part"); (case k4 => first | k_asm | ktn_no "the ledger"); (case k5 => first | k_asm | ktn_no "the top"); (case kK => first | exact rfl | assumption | ktn_no "no def"); (case kd => first | ktr_room | ktn_no "the room"); (case ku => first | ktr_units | ktn_no "the units")))
    intro v' news' h' tk' F7 N7 hr'
    obtain ⟨hv', e7, hn'⟩ := hr'
    subst hv' hn'
    have pa1 := nrm_pos nlo
    have pa2 := nrm_pos nhi
    clear N6 F6
    (repeat' ((fail_if_success (with_reducible show wpAny _ _ (exec (Stmt.While _ _ _ _) _) _ _ _)); (fail_if_success (with_reducible show wpAny _ _ (call (Value.ref 91) _) _ _ _)); (fail_if_success (with_reducible show wpAny _ _ (call (Value.ref 98) _) _ _ _)); (fail_if_success (with_reducible show wpAny _ _ (call (Value.ref 152) _) _ _ _)); (fail_if_success (with_reducible show wpAny _ _ (call (Value.builtin "sorted") _) _ _ _)); first | (k_unfold; (try dsimp only)) | (k_end; wrow_close) | (with_reducible ((k_here; k_dflt (first | ((with_reducible show wpAny _ _ (compareOp _ (Value.str (W3 _ _ _) _) _) _ _ _); refine' ne_w3 ?_) | ((with_reducible show wpAny _ _ (compareOp _ (Value.str (Str.mk _) _) _) _ _ _); refine' ne_no ?_))))) | ((with_reducible show wpAny _ _ (execs (_ :: _) _) _ _ _); with_reducible ((refine execs_cut ?_; intro _ _))) | ((with_reducible show wpAny _ _ (callWith _ (Value.ref _) _ _ _) _ _ _); with_reducible ((k_here; k_dflt (first | (refine' callWith_K ?k1 ?k2 ?_; (case k1 => k_asm); (case k2 => k_is); k_whole) | (refine' callWith_K0 ?k1 ?k2 ?_; (case k1 => k_in); (case k2 => k_is); k_whole))))) | ((with_reducible show wpAny _ _ (binaryOp .Mult (Value.int _ _) (Value.float _ _)) _ _ _); with_reducible ((k_here; k_dflt (refine' mulif_safe ?k1 ?_; (case k1 => omega); k_whole)))) | ((with_reducible show wpAny _ _ (binaryOp .Mult (Value.float _ _) (Value.int _ _)) _ _ _); with_reducible ((k_here; k_dflt (refine' mulfi_safe ?k1 ?_; (case k1 => omega); k_whole)))) | ((with_reducible show wpAny _ _ (binaryOp .Mod (Value.float _ _) (Value.float _ _)) _ _ _); with_reducible ((k_here; k_dflt (refine' fmod_safe ?k1 ?k2 ?_; (case k1 => with_unfolding_all rfl); (case k2 => decide +kernel); k_whole)))) | ((with_reducible show wpAny _ _ (binaryOp .Div (Value.float _ _) (Value.float _ _)) _ _ _); with_reducible ((k_here; k_dflt (refine' fdiv_safe ?k1 ?k2 ?_; (case k1 => with_unfolding_all rfl); (case k2 => decide +kernel); k_whole)))) | ((with_reducible show wpAny _ _ (binaryOp .Div (Value.int _ _) (Value.int _ _)) _ _ _); with_reducible ((k_here; k_dflt (refine' div_safe ?k1 ?k2 ?k3 ?_; (case k1 => with_unfolding_all rfl); (case k2 => omega); (case k3 => omega); k_whole)))) | ((with_reducible show wpAny _ _ (call (Value.builtin "min") _) _ _ _); with_reducible ((k_here; (with_reducible show wpAny _ _ (call (Value.builtin _) [Value.int _ _, Value.int _ _, Value.int _ _]) _ _ _); k_dflt (refine' min3_N ?k1 ?k2 ?k3 ?_; (case k1 => with_unfolding_all rfl); (case k2 => k_asm); (case k3 => k_asm); k_whole); intro h' tk' tt' F' N'; (try k_sweep)))) | ((with_reducible show wpAny _ _ (call (Value.builtin "max") _) _ _ _); with_reducible ((k_here; (with_reducible show wpAny _ _ (call (Value.builtin _) [Value.int _ _, Value.int _ _, Value.int _ _]) _ _ _); k_dflt (refine' max3_N ?k1 ?k2 ?k3 ?_; (case k1 => with_unfolding_all rfl); (case k2 => k_asm); (case k3 => k_asm); k_whole); intro h' tk' tt' F' N'; (try k_sweep)))) | walk1 | dsimp only | (leave1; walk_say "STEP leave1"; try dsimp only) | fail "no step"))
    · rename (_ && _) = true => hz
      have hz0 : rsA c' d' a' b' = 0 ∧ rsB c' d' a' b' = 0 := by simpa using hz
      have hw1 : (ws' ++ [(W3 a' b' 0, t9)]).map Prod.fst = (r ++ [(a', b', 0)]).map txt := by rw [List.map_append, List.map_append, hws3]; rfl
      have hw2 : (ws' ++ [(W3 a' b' 0, t9)]).length = r.length + 1 := by simp [hlw]
      rw [hz0.1, hz0.2] at hS
      rename News _ _ _ _ => N7
      replace N7 : News _ _ _ ((pb, listOf (strsL (ws' ++ [(W3 a' b' 0, t9)])) e7) :: (dl, lexD w k1 k2 k3 k4 tl' tw ln fs pb) :: (l, listOf #[.int (p' : Int) t2'] n') :: rest) := Mine.News.sub N7 (by
        intro q hq
        simp only [List.mem_cons] at hq
        rcases hq with h | h | h | h
        · subst h; ((repeat (first | exact List.Mem.head _ | apply List.Mem.tail)))
        · subst h; ((repeat (first | exact List.Mem.head _ | apply List.Mem.tail)))
        · subst h; ((repeat (first | exact List.Mem.head _ | apply List.Mem.tail)))
        · simp [h])
      refine' (next_con w mean mg mb cz lx dl fdd fs rd l pb fdx k1 k2 k3 k4 tl' tw kr t2' ln p' n' e7 fr fix rest _ I n4 n5 n6 hp' (by rw [hw2]; omega)) _ _ _ _ _ _ _ _ _ _ _ _ _ _ _ _ _ _ _ ?k0 ?k1 ?k2 ?k3 ?k4 ?k5 ?kK ?kd ?ku ?_
      (((case k0 => assumption); (case k1 => first | k_asm | ktn_no "the frames below"); (case k2 => first | k_asm | ktn_no "the frame"); (case k3 => first | k_asm | ktn_no "the written part"); (case k4 => first | k_asm | ktn_no "the ledger"); (case k5 => first | k_asm | ktn_no "the top"); (case kK => first | exact rfl | assumption | ktn_no "no def"); (case kd => first | ktr_room | ktn_no "the room"); (case ku => first | ktr_units | ktn_no "the units")))
      intro v' news' h' tk' F8 N8 hr'
      obtain ⟨u1, u2, n8, tl8, p8, e8, hp8, hv', hn'⟩ := hr'
      subst hv' hn'
      (repeat' ((fail_if_success (with_reducible show wpAny _ _ (exec (Stmt.While _ _ _ _) _) _ _ _)); (fail_if_success (with_reducible show wpAny _ _ (call (Value.ref 91) _) _ _ _)); (fail_if_success (with_reducible show wpAny _ _ (call (Value.ref 98) _) _ _ _)); (fail_if_success (with_reducible show wpAny _ _ (call (Value.ref 152) _) _ _ _)); (fail_if_success (with_reducible show wpAny _ _ (call (Value.builtin "sorted") _) _ _ _)); first | (k_unfold; (try dsimp only)) | (k_end; wrow_close) | (with_reducible ((k_here; k_dflt (first | ((with_reducible show wpAny _ _ (compareOp _ (Value.str (W3 _ _ _) _) _) _ _ _); refine' ne_w3 ?_) | ((with_reducible show wpAny _ _ (compareOp _ (Value.str (Str.mk _) _) _) _ _ _); refine' ne_no ?_))))) | ((with_reducible show wpAny _ _ (execs (_ :: _) _) _ _ _); with_reducible ((refine execs_cut ?_; intro _ _))) | ((with_reducible show wpAny _ _ (callWith _ (Value.ref _) _ _ _) _ _ _); with_reducible ((k_here; k_dflt (first | (refine' callWith_K ?k1 ?k2 ?_; (case k1 => k_asm); (case k2 => k_is); k_whole) | (refine' callWith_K0 ?k1 ?k2 ?_; (case k1 => k_in); (case k2 => k_is); k_whole))))) | ((with_reducible show wpAny _ _ (binaryOp .Mult (Value.int _ _) (Value.float _ _)) _ _ _); with_reducible ((k_here; k_dflt (refine' mulif_safe ?k1 ?_; (case k1 => omega); k_whole)))) | ((with_reducible show wpAny _ _ (binaryOp .Mult (Value.float _ _) (Value.int _ _)) _ _ _); with_reducible ((k_here; k_dflt (refine' mulfi_safe ?k1 ?_; (case k1 => omega); k_whole)))) | ((with_reducible show wpAny _ _ (binaryOp .Mod (Value.float _ _) (Value.float _ _)) _ _ _); with_reducible ((k_here; k_dflt (refine' fmod_safe ?k1 ?k2 ?_; (case k1 => with_unfolding_all rfl); (case k2 => decide +kernel); k_whole)))) | ((with_reducible show wpAny _ _ (binaryOp .Div (Value.float _ _) (Value.float _ _)) _ _ _); with_reducible ((k_here; k_dflt (refine' fdiv_safe ?k1 ?k2 ?_; (case k1 => with_unfolding_all rfl); (case k2 => decide +kernel); k_whole)))) | ((with_reducible show wpAny _ _ (binaryOp .Div (Value.int _ _) (Value.int _ _)) _ _ _); with_reducible ((k_here; k_dflt (refine' div_safe ?k1 ?k2 ?k3 ?_; (case k1 => with_unfolding_all rfl); (case k2 => omega); (case k3 => omega); k_whole)))) | ((with_reducible show wpAny _ _ (call (Value.builtin "min") _) _ _ _); with_reducible ((k_here; (with_reducible show wpAny _ _ (call (Value.builtin _) [Value.int _ _, Value.int _ _, Value.int _ _]) _ _ _); k_dflt (refine' min3_N ?k1 ?k2 ?k3 ?_; (case k1 => with_unfolding_all rfl); (case k2 => k_asm); (case k3 => k_asm); k_whole); intro h' tk' tt' F' N'; (try k_sweep)))) | ((with_reducible show wpAny _ _ (call (Value.builtin "max") _) _ _ _); with_reducible ((k_here; (with_reducible show wpAny _ _ (call (Value.builtin _) [Value.int _ _, Value.int _ _, Value.int _ _]) _ _ _); k_dflt (refine' max3_N ?k1 ?k2 ?k3 ?_; (case k1 => with_unfolding_all rfl); (case k2 => k_asm); (case k3 => k_asm); k_whole); intro h' tk' tt' F' N'; (try k_sweep)))) | walk1 | dsimp only | (leave1; walk_say "STEP leave1"; try dsimp only) | fail "no step"))
      refine' (next_con w mean mg mb cz lx dl fdd fs rd l pb fdx k1 k2 k3 k4 tl8 tw kr u2 ln p8 n8 e8 fr fix rest _ I n4 n5 n6 hp8 (by rw [List.length_tail, hw2]; omega)) _ _ _ _ _ _ _ _ _ _ _ _ _ _ _ _ _ _ _ ?k0 ?k1 ?k2 ?k3 ?k4 ?k5 ?kK ?kd ?ku ?_
      (((case k0 => assumption); (case k1 => first | k_asm | ktn_no "the frames below"); (case k2 => first | k_asm | ktn_no "the frame"); (case k3 => first | k_asm | ktn_no "the written part"); (case k4 => first | k_asm | ktn_no "the ledger"); (case k5 => first | k_asm | ktn_no "the top"); (case kK => first | exact rfl | assumption | ktn_no "no def"); (case kd => first | ktr_room | ktn_no "the room"); (case ku => first | ktr_units | ktn_no "the units")))
      intro v' news' h' tk' F9 N9 hr'
      obtain ⟨u3, u4, n9, tl9, p9, e9, hp9, hv', hn'⟩ := hr'
      subst hv' hn'
      rw [qHd_is hw1, qHd_is (tail_is hw1)]
      (repeat' ((fail_if_success (with_reducible show wpAny _ _ (exec (Stmt.While _ _ _ _) _) _ _ _)); (fail_if_success (with_reducible show wpAny _ _ (call (Value.ref 91) _) _ _ _)); (fail_if_success (with_reducible show wpAny _ _ (call (Value.ref 98) _) _ _ _)); (fail_if_success (with_reducible show wpAny _ _ (call (Value.ref 152) _) _ _ _)); (fail_if_success (with_reducible show wpAny _ _ (call (Value.builtin "sorted") _) _ _ _)); first | (k_unfold; (try dsimp only)) | (k_end; wrow_close) | (with_reducible ((k_here; k_dflt (first | ((with_reducible show wpAny _ _ (compareOp _ (Value.str (W3 _ _ _) _) _) _ _ _); refine' ne_w3 ?_) | ((with_reducible show wpAny _ _ (compareOp _ (Value.str (Str.mk _) _) _) _ _ _); refine' ne_no ?_))))) | ((with_reducible show wpAny _ _ (execs (_ :: _) _) _ _ _); with_reducible ((refine execs_cut ?_; intro _ _))) | ((with_reducible show wpAny _ _ (callWith _ (Value.ref _) _ _ _) _ _ _); with_reducible ((k_here; k_dflt (first | (refine' callWith_K ?k1 ?k2 ?_; (case k1 => k_asm); (case k2 => k_is); k_whole) | (refine' callWith_K0 ?k1 ?k2 ?_; (case k1 => k_in); (case k2 => k_is); k_whole))))) | ((with_reducible show wpAny _ _ (binaryOp .Mult (Value.int _ _) (Value.float _ _)) _ _ _); with_reducible ((k_here; k_dflt (refine' mulif_safe ?k1 ?_; (case k1 => omega); k_whole)))) | ((with_reducible show wpAny _ _ (binaryOp .Mult (Value.float _ _) (Value.int _ _)) _ _ _); with_reducible ((k_here; k_dflt (refine' mulfi_safe ?k1 ?_; (case k1 => omega); k_whole)))) | ((with_reducible show wpAny _ _ (binaryOp .Mod (Value.float _ _) (Value.float _ _)) _ _ _); with_reducible ((k_here; k_dflt (refine' fmod_safe ?k1 ?k2 ?_; (case k1 => with_unfolding_all rfl); (case k2 => decide +kernel); k_whole)))) | ((with_reducible show wpAny _ _ (binaryOp .Div (Value.float _ _) (Value.float _ _)) _ _ _); with_reducible ((k_here; k_dflt (refine' fdiv_safe ?k1 ?k2 ?_; (case k1 => with_unfolding_all rfl); (case k2 => decide +kernel); k_whole)))) | ((with_reducible show wpAny _ _ (binaryOp .Div (Value.int _ _) (Value.int _ _)) _ _ _); with_reducible ((k_here; k_dflt (refine' div_safe ?k1 ?k2 ?k3 ?_; (case k1 => with_unfolding_all rfl); (case k2 => omega); (case k3 => omega); k_whole)))) | ((with_reducible show wpAny _ _ (call (Value.builtin "min") _) _ _ _); with_reducible ((k_here; (with_reducible show wpAny _ _ (call (Value.builtin _) [Value.int _ _, Value.int _ _, Value.int _ _]) _ _ _); k_dflt (refine' min3_N ?k1 ?k2 ?k3 ?_; (case k1 => with_unfolding_all rfl); (case k2 => k_asm); (case k3 => k_asm); k_whole); intro h' tk' tt' F' N'; (try k_sweep)))) | ((with_reducible show wpAny _ _ (call (Value.builtin "max") _) _ _ _); with_reducible ((k_here; (with_reducible show wpAny _ _ (call (Value.builtin _) [Value.int _ _, Value.int _ _, Value.int _ _]) _ _ _); k_dflt (refine' max3_N ?k1 ?k2 ?k3 ?_; (case k1 => with_unfolding_all rfl); (case k2 => k_asm); (case k3 => k_asm); k_whole); intro h' tk' tt' F' N'; (try k_sweep)))) | walk1 | dsimp only | (leave1; walk_say "STEP leave1"; try dsimp only) | fail "no step"))
      rename Fr _ _ _ _ => F10
      rename News _ _ _ _ => N10
      exact ⟨_, _, _, _, ((r ++ [(a', b', 0)]).map nN).sum, rfl, F10, drop1 N10, by rw [hn]; simp only [List.map_append, List.map_cons, List.map_nil, List.sum_append, List.sum_cons, List.sum_nil]; rw [show nN (a', b', 0) = (nrm a' b').toNat by unfold nN; rw [nmK nlo]]; omega, _, r ++ [(a', b', 0)], _, u1, u3, tl9, u4, p9, e9, n9, pins3 rfl rfl rfl, rfl, hp9, by rw [tail_is (tail_is hw1)]; simp, by
        intro q hq
        rcases List.mem_append.mp hq with h | h
        · exact hokr q h
        · rw [List.mem_singleton.mp h]; exact okK nlo, by simp; omega, by rw [List.map_append, List.map_cons, List.map_nil, nmK nlo]; exact (Same.zero.symm.trans hS).trans hsame, rfl⟩
    · rename_i t10 k10 a10
      rename (_ && _) = false => hz
      have hz0 : ¬ (rsA c' d' a' b' = 0 ∧ rsB c' d' a' b' = 0) := by
        rintro ⟨e1, e2⟩
        rw [e1, e2] at hz
        exact absurd hz (by decide)
      obtain ⟨hnr, hlt⟩ := hrest.resolve_left hz0
      have br := hnr
      unfold Nm at br
      rw [key_txt (show Seven (rsA c' d' a' b') by unfold Seven; omega) (show Seven (rsB c' d' a' b') by unfold Seven; omega)]
      rename News _ _ _ _ => N7
      replace N7 : News _ _ _ ((pb, listOf (strsL (ws' ++ [(W3 a' b' 0, t9)])) e7) :: (dl, lexD w k1 k2 k3 k4 tl' tw ln fs pb) :: (l, listOf #[.int (p' : Int) t2'] n') :: rest) := Mine.News.sub N7 (by
        intro q hq
        simp only [List.mem_cons] at hq
        rcases hq with h | h | h | h
        · subst h; ((repeat (first | exact List.Mem.head _ | apply List.Mem.tail)))
        · subst h; ((repeat (first | exact List.Mem.head _ | apply List.Mem.tail)))
        · subst h; ((repeat (first | exact List.Mem.head _ | apply List.Mem.tail)))
        · simp [h])
      have hw0 : (ws' ++ [(W3 a' b' 0, t9)]).length = r.length + 1 := by simp [hlw]
      refine' (push_pb w mean mg mb lx dl fs pb k1 k2 k3 k4 tl' tw ln e7 (W3 (rsA c' d' a' b') (rsB c' d' a' b') 0) t10 (ws' ++ [(W3 a' b' 0, t9)]) ((l, listOf #[.int (p' : Int) t2'] n') :: rest) (.tail _ hx1) (List.forall_mem_cons.mpr ⟨Ne.symm n6, n4⟩) (Ne.symm n5) (by rw [hw0]; omega)) _ _ _ _ _ _ _ _ _ _ _ _ _ _ _ _ _ _ _ ?k1 ?k2 ?k3 ?k4 ?k5 ?kK ?kd ?ku ?_
      (((case k1 => first | k_asm | ktn_no "the frames below"); (case k2 => first | k_asm | ktn_no "the frame"); (case k3 => first | k_asm | ktn_no "the written part"); (case k4 => first | k_asm | ktn_no "the ledger"); (case k5 => first | k_asm | ktn_no "the top"); (case kK => first | exact rfl | assumption | ktn_no "no def"); (case kd => first | ktr_room | ktn_no "the room"); (case ku => first | ktr_units | ktn_no "the units")))
      intro v' news' h' tk' F7' N7' hr'
      obtain ⟨hv', e7', hn'⟩ := hr'
      subst hv' hn'
      have hw1 : (ws' ++ [(W3 a' b' 0, t9)] ++ [(W3 (rsA c' d' a' b') (rsB c' d' a' b') 0, t10)]).map Prod.fst = (r ++ [(a', b', 0)] ++ [(rsA c' d' a' b', rsB c' d' a' b', 0)]).map txt := by rw [List.map_append, List.map_append, List.map_append, List.map_append, hws3]; rfl
      have hw2 : (ws' ++ [(W3 a' b' 0, t9)] ++ [(W3 (rsA c' d' a' b') (rsB c' d' a' b') 0, t10)]).length = r.length + 2 := by simp [hlw]
      (repeat' ((fail_if_success (with_reducible show wpAny _ _ (exec (Stmt.While _ _ _ _) _) _ _ _)); (fail_if_success (with_reducible show wpAny _ _ (call (Value.ref 91) _) _ _ _)); (fail_if_success (with_reducible show wpAny _ _ (call (Value.ref 98) _) _ _ _)); (fail_if_success (with_reducible show wpAny _ _ (call (Value.ref 152) _) _ _ _)); (fail_if_success (with_reducible show wpAny _ _ (call (Value.builtin "sorted") _) _ _ _)); first | (k_unfold; (try dsimp only)) | (k_end; wrow_close) | (with_reducible ((k_here; k_dflt (first | ((with_reducible show wpAny _ _ (compareOp _ (Value.str (W3 _ _ _) _) _) _ _ _); refine' ne_w3 ?_) | ((with_reducible show wpAny _ _ (compareOp _ (Value.str (Str.mk _) _) _) _ _ _); refine' ne_no ?_))))) | ((with_reducible show wpAny _ _ (execs (_ :: _) _) _ _ _); with_reducible ((refine execs_cut ?_; intro _ _))) | ((with_reducible show wpAny _ _ (callWith _ (Value.ref _) _ _ _) _ _ _); with_reducible ((k_here; k_dflt (first | (refine' callWith_K ?k1 ?k2 ?_; (case k1 => k_asm); (case k2 => k_is); k_whole) | (refine' callWith_K0 ?k1 ?k2 ?_; (case k1 => k_in); (case k2 => k_is); k_whole))))) | ((with_reducible show wpAny _ _ (binaryOp .Mult (Value.int _ _) (Value.float _ _)) _ _ _); with_reducible ((k_here; k_dflt (refine' mulif_safe ?k1 ?_; (case k1 => omega); k_whole)))) | ((with_reducible show wpAny _ _ (binaryOp .Mult (Value.float _ _) (Value.int _ _)) _ _ _); with_reducible ((k_here; k_dflt (refine' mulfi_safe ?k1 ?_; (case k1 => omega); k_whole)))) | ((with_reducible show wpAny _ _ (binaryOp .Mod (Value.float _ _) (Value.float _ _)) _ _ _); with_reducible ((k_here; k_dflt (refine' fmod_safe ?k1 ?k2 ?_; (case k1 => with_unfolding_all rfl); (case k2 => decide +kernel); k_whole)))) | ((with_reducible show wpAny _ _ (binaryOp .Div (Value.float _ _) (Value.float _ _)) _ _ _); with_reducible ((k_here; k_dflt (refine' fdiv_safe ?k1 ?k2 ?_; (case k1 => with_unfolding_all rfl); (case k2 => decide +kernel); k_whole)))) | ((with_reducible show wpAny _ _ (binaryOp .Div (Value.int _ _) (Value.int _ _)) _ _ _); with_reducible ((k_here; k_dflt (refine' div_safe ?k1 ?k2 ?k3 ?_; (case k1 => with_unfolding_all rfl); (case k2 => omega); (case k3 => omega); k_whole)))) | ((with_reducible show wpAny _ _ (call (Value.builtin "min") _) _ _ _); with_reducible ((k_here; (with_reducible show wpAny _ _ (call (Value.builtin _) [Value.int _ _, Value.int _ _, Value.int _ _]) _ _ _); k_dflt (refine' min3_N ?k1 ?k2 ?k3 ?_; (case k1 => with_unfolding_all rfl); (case k2 => k_asm); (case k3 => k_asm); k_whole); intro h' tk' tt' F' N'; (try k_sweep)))) | ((with_reducible show wpAny _ _ (call (Value.builtin "max") _) _ _ _); with_reducible ((k_here; (with_reducible show wpAny _ _ (call (Value.builtin _) [Value.int _ _, Value.int _ _, Value.int _ _]) _ _ _); k_dflt (refine' max3_N ?k1 ?k2 ?k3 ?_; (case k1 => with_unfolding_all rfl); (case k2 => k_asm); (case k3 => k_asm); k_whole); intro h' tk' tt' F' N'; (try k_sweep)))) | walk1 | dsimp only | (leave1; walk_say "STEP leave1"; try dsimp only) | fail "no step"))
      refine' (next_con w mean mg mb cz lx dl fdd fs rd l pb fdx k1 k2 k3 k4 tl' tw kr t2' ln p' n' e7' fr fix rest _ I n4 n5 n6 hp' (by rw [hw2]; omega)) _ _ _ _ _ _ _ _ _ _ _ _ _ _ _ _ _ _ _ ?k0 ?k1 ?k2 ?k3 ?k4 ?k5 ?kK ?kd ?ku ?_
      (((case k0 => assumption); (case k1 => first | k_asm | ktn_no "the frames below"); (case k2 => first | k_asm | ktn_no "the frame"); (case k3 => first | k_asm | ktn_no "the written part"); (case k4 => first | k_asm | ktn_no "the ledger"); (case k5 => first | k_asm | ktn_no "the top"); (case kK => first | exact rfl | assumption | ktn_no "no def"); (case kd => first | ktr_room | ktn_no "the room"); (case ku => first | ktr_units | ktn_no "the units")))
      intro v' news' h' tk' F8 N8 hr'
      obtain ⟨u1, u2, n8, tl8, p8, e8, hp8, hv', hn'⟩ := hr'
      subst hv' hn'
      (repeat' ((fail_if_success (with_reducible show wpAny _ _ (exec (Stmt.While _ _ _ _) _) _ _ _)); (fail_if_success (with_reducible show wpAny _ _ (call (Value.ref 91) _) _ _ _)); (fail_if_success (with_reducible show wpAny _ _ (call (Value.ref 98) _) _ _ _)); (fail_if_success (with_reducible show wpAny _ _ (call (Value.ref 152) _) _ _ _)); (fail_if_success (with_reducible show wpAny _ _ (call (Value.builtin "sorted") _) _ _ _)); first | (k_unfold; (try dsimp only)) | (k_end; wrow_close) | (with_reducible ((k_here; k_dflt (first | ((with_reducible show wpAny _ _ (compareOp _ (Value.str (W3 _ _ _) _) _) _ _ _); refine' ne_w3 ?_) | ((with_reducible show wpAny _ _ (compareOp _ (Value.str (Str.mk _) _) _) _ _ _); refine' ne_no ?_))))) | ((with_reducible show wpAny _ _ (execs (_ :: _) _) _ _ _); with_reducible ((refine execs_cut ?_; intro _ _))) | ((with_reducible show wpAny _ _ (callWith _ (Value.ref _) _ _ _) _ _ _); with_reducible ((k_here; k_dflt (first | (refine' callWith_K ?k1 ?k2 ?_; (case k1 => k_asm); (case k2 => k_is); k_whole) | (refine' callWith_K0 ?k1 ?k2 ?_; (case k1 => k_in); (case k2 => k_is); k_whole))))) | ((with_reducible show wpAny _ _ (binaryOp .Mult (Value.int _ _) (Value.float _ _)) _ _ _); with_reducible ((k_here; k_dflt (refine' mulif_safe ?k1 ?_; (case k1 => omega); k_whole)))) | ((with_reducible show wpAny _ _ (binaryOp .Mult (Value.float _ _) (Value.int _ _)) _ _ _); with_reducible ((k_here; k_dflt (refine' mulfi_safe ?k1 ?_; (case k1 => omega); k_whole)))) | ((with_reducible show wpAny _ _ (binaryOp .Mod (Value.float _ _) (Value.float _ _)) _ _ _); with_reducible ((k_here; k_dflt (refine' fmod_safe ?k1 ?k2 ?_; (case k1 => with_unfolding_all rfl); (case k2 => decide +kernel); k_whole)))) | ((with_reducible show wpAny _ _ (binaryOp .Div (Value.float _ _) (Value.float _ _)) _ _ _); with_reducible ((k_here; k_dflt (refine' fdiv_safe ?k1 ?k2 ?_; (case k1 => with_unfolding_all rfl); (case k2 => decide +kernel); k_whole)))) | ((with_reducible show wpAny _ _ (binaryOp .Div (Value.int _ _) (Value.int _ _)) _ _ _); with_reducible ((k_here; k_dflt (refine' div_safe ?k1 ?k2 ?k3 ?_; (case k1 => with_unfolding_all rfl); (case k2 => omega); (case k3 => omega); k_whole)))) | ((with_reducible show wpAny _ _ (call (Value.builtin "min") _) _ _ _); with_reducible ((k_here; (with_reducible show wpAny _ _ (call (Value.builtin _) [Value.int _ _, Value.int _ _, Value.int _ _]) _ _ _); k_dflt (refine' min3_N ?k1 ?k2 ?k3 ?_; (case k1 => with_unfolding_all rfl); (case k2 => k_asm); (case k3 => k_asm); k_whole); intro h' tk' tt' F' N'; (try k_sweep)))) | ((with_reducible show wpAny _ _ (call (Value.builtin "max") _) _ _ _); with_reducible ((k_here; (with_reducible show wpAny _ _ (call (Value.builtin _) [Value.int _ _, Value.int _ _, Value.int _ _]) _ _ _); k_dflt (refine' max3_N ?k1 ?k2 ?k3 ?_; (case k1 => with_unfolding_all rfl); (case k2 => k_asm); (case k3 => k_asm); k_whole); intro h' tk' tt' F' N'; (try k_sweep)))) | walk1 | dsimp only | (leave1; walk_say "STEP leave1"; try dsimp only) | fail "no step"))
      refine' (next_con w mean mg mb cz lx dl fdd fs rd l pb fdx k1 k2 k3 k4 tl8 tw kr u2 ln p8 n8 e8 fr fix rest _ I n4 n5 n6 hp8 (by rw [List.length_tail, hw2]; omega)) _ _ _ _ _ _ _ _ _ _ _ _ _ _ _ _ _ _ _ ?k0 ?k1 ?k2 ?k3 ?k4 ?k5 ?kK ?kd ?ku ?_
      (((case k0 => assumption); (case k1 => first | k_asm | ktn_no "the frames below"); (case k2 => first | k_asm | ktn_no "the frame"); (case k3 => first | k_asm | ktn_no "the written part"); (case k4 => first | k_asm | ktn_no "the ledger"); (case k5 => first | k_asm | ktn_no "the top"); (case kK => first | exact rfl | assumption | ktn_no "no def"); (case kd => first | ktr_room | ktn_no "the room"); (case ku => first | ktr_units | ktn_no "the units")))
      intro v' news' h' tk' F9 N9 hr'
      obtain ⟨u3, u4, n9, tl9, p9, e9, hp9, hv', hn'⟩ := hr'
      subst hv' hn'
      rw [qHd_is hw1, qHd_is (tail_is hw1)]
      (repeat' ((fail_if_success (with_reducible show wpAny _ _ (exec (Stmt.While _ _ _ _) _) _ _ _)); (fail_if_success (with_reducible show wpAny _ _ (call (Value.ref 91) _) _ _ _)); (fail_if_success (with_reducible show wpAny _ _ (call (Value.ref 98) _) _ _ _)); (fail_if_success (with_reducible show wpAny _ _ (call (Value.ref 152) _) _ _ _)); (fail_if_success (with_reducible show wpAny _ _ (call (Value.builtin "sorted") _) _ _ _)); first | (k_unfold; (try dsimp only)) | (k_end; wrow_close) | (with_reducible ((k_here; k_dflt (first | ((with_reducible show wpAny _ _ (compareOp _ (Value.str (W3 _ _ _) _) _) _ _ _); refine' ne_w3 ?_) | ((with_reducible show wpAny _ _ (compareOp _ (Value.str (Str.mk _) _) _) _ _ _); refine' ne_no ?_))))) | ((with_reducible show wpAny _ _ (execs (_ :: _) _) _ _ _); with_reducible ((refine execs_cut ?_; intro _ _))) | ((with_reducible show wpAny _ _ (callWith _ (Value.ref _) _ _ _) _ _ _); with_reducible ((k_here; k_dflt (first | (refine' callWith_K ?k1 ?k2 ?_; (case k1 => k_asm); (case k2 => k_is); k_whole) | (refine' callWith_K0 ?k1 ?k2 ?_; (case k1 => k_in); (case k2 => k_is); k_whole))))) | ((with_reducible show wpAny _ _ (binaryOp .Mult (Value.int _ _) (Value.float _ _)) _ _ _); with_reducible ((k_here; k_dflt (refine' mulif_safe ?k1 ?_; (case k1 => omega); k_whole)))) | ((with_reducible show wpAny _ _ (binaryOp .Mult (Value.float _ _) (Value.int _ _)) _ _ _); with_reducible ((k_here; k_dflt (refine' mulfi_safe ?k1 ?_; (case k1 => omega); k_whole)))) | ((with_reducible show wpAny _ _ (binaryOp .Mod (Value.float _ _) (Value.float _ _)) _ _ _); with_reducible ((k_here; k_dflt (refine' fmod_safe ?k1 ?k2 ?_; (case k1 => with_unfolding_all rfl); (case k2 => decide +kernel); k_whole)))) | ((with_reducible show wpAny _ _ (binaryOp .Div (Value.float _ _) (Value.float _ _)) _ _ _); with_reducible ((k_here; k_dflt (refine' fdiv_safe ?k1 ?k2 ?_; (case k1 => with_unfolding_all rfl); (case k2 => decide +kernel); k_whole)))) | ((with_reducible show wpAny _ _ (binaryOp .Div (Value.int _ _) (Value.int _ _)) _ _ _); with_reducible ((k_here; k_dflt (refine' div_safe ?k1 ?k2 ?k3 ?_; (case k1 => with_unfolding_all rfl); (case k2 => omega); (case k3 => omega); k_whole)))) | ((with_reducible show wpAny _ _ (call (Value.builtin "min") _) _ _ _); with_reducible ((k_here; (with_reducible show wpAny _ _ (call (Value.builtin _) [Value.int _ _, Value.int _ _, Value.int _ _]) _ _ _); k_dflt (refine' min3_N ?k1 ?k2 ?k3 ?_; (case k1 => with_unfolding_all rfl); (case k2 => k_asm); (case k3 => k_asm); k_whole); intro h' tk' tt' F' N'; (try k_sweep)))) | ((with_reducible show wpAny _ _ (call (Value.builtin "max") _) _ _ _); with_reducible ((k_here; (with_reducible show wpAny _ _ (call (Value.builtin _) [Value.int _ _, Value.int _ _, Value.int _ _]) _ _ _); k_dflt (refine' max3_N ?k1 ?k2 ?k3 ?_; (case k1 => with_unfolding_all rfl); (case k2 => k_asm); (case k3 => k_asm); k_whole); intro h' tk' tt' F' N'; (try k_sweep)))) | walk1 | dsimp only | (leave1; walk_say "STEP leave1"; try dsimp only) | fail "no step"))
      rename Fr _ _ _ _ => F10
      rename News _ _ _ _ => N10
      exact ⟨_, _, _, _, ((r ++ [(a', b', 0)] ++ [(rsA c' d' a' b', rsB c' d' a' b', 0)]).map nN).sum, rfl, F10, drop1 N10, by
        rw [hn]; simp only [List.map_append, List.map_cons, List.map_nil, List.sum_append, List.sum_cons, List.sum_nil]
        rw [show nN (a', b', 0) = (nrm a' b').toNat by unfold nN; rw [nmK nlo], show nN (rsA c' d' a' b', rsB c' d' a' b', 0) = (nrm (rsA c' d' a' b') (rsB c' d' a' b')).toNat by unfold nN; rw [nmK hnr]]
        omega, _, r ++ [(a', b', 0)] ++ [(rsA c' d' a' b', rsB c' d' a' b', 0)], _, u1, u3, tl9, u4, p9, e9, n9, pins3 rfl rfl rfl, rfl, hp9, by rw [tail_is (tail_is hw1)]; simp, by
        intro q hq
        rcases List.mem_append.mp hq with h | h
        · rcases List.mem_append.mp h with h | h
          · exact hokr q h
          · rw [List.mem_singleton.mp h]; exact okK nlo
        · rw [List.mem_singleton.mp h]; exact okK hnr, by simp; omega, by rw [List.map_append, List.map_append, List.map_cons, List.map_nil, List.map_cons, List.map_nil, nmK nlo, nmK hnr]; exact hS.trans hsame, rfl⟩
end

section
theorem pop2 (w : World) (mean : ExcName → Option Value) (mg mb : Str → Option Value) (l z x0 : Addr) (r us : List Addr) (e : Nat) (ka kb : Addr → Int) (rest : List (Addr × Obj))
   (hne : ∀ q ∈ rest, q.1 ≠ l) (hit : ∀ x ∈ x0 :: r, IT rest ka kb x) (hx : IT rest ka kb z) (hlen : r.length ≤ 3) (hu : popL (kx ka kb) (x0 :: r) z = us) :
   Con w mean mg mb 35 ((l, listOf (refs ((x0 :: r) ++ [z])) e) :: rest) [.ref l] 3
     (fun news' v => v = .ref x0 ∧ news' = (l, listOf (refs us) (e + 1)) :: rest) := by
  subst hu
  exact pop_con w mean mg mb l z (x0 :: r) e ka kb rest hne hit hx (by simp; omega)
theorem rep2 (w : World) (mean : ExcName → Option Value) (mg mb : Str → Option Value) (l x y : Addr) (us vs : List Addr) (e : Nat) (ka kb : Addr → Int) (rest : List (Addr × Obj))
   (hne : ∀ q ∈ rest, q.1 ≠ l) (hit : ∀ x ∈ y :: us, IT rest ka kb x) (hx : IT rest ka kb x) (hlen : (y :: us).length ≤ 6) (hv : up (kx ka kb) (x :: us) 0 = vs) :
   Con w mean mg mb 42 ((l, listOf (refs (y :: us)) e) :: rest) [.ref l, .ref x] 3
     (fun news' v => v = .ref y ∧ news' = (l, listOf (refs vs) e) :: rest) := by
  subst hv
  have q := replace_con w mean mg mb l x (y :: us) e ka kb rest hne hit hx hlen (by simp)
  intro pr ls dp un gd cn cs a ccd cl outer A₀ base h₀ L m s Q E B F X N T hk hd hu hret
  refine q pr ls dp un gd cn cs a ccd cl outer A₀ base h₀ L m s Q E B F X N T hk hd hu fun v news' h' tk' F' N' hr => hret v news' h' tk' F' N' ?_
  obtain ⟨⟨y', h1, h2⟩, h3⟩ := hr
  have : y' = y := by simpa using h1.symm
  subst this
  exact ⟨h2, h3⟩
local macro_rules | `(tactic| k_mem) => `(tactic| first | assumption | exact List.Mem.head _ | exact List.Mem.tail _ (List.Mem.head _) | exact List.Mem.tail _ (List.Mem.tail _ (List.Mem.head _)) | exact List.Mem.tail _ (by assumption) | exact List.Mem.tail _ (List.Mem.tail _ (by assumption)) | exact List.Mem.tail _ (List.Mem.tail _ (List.Mem.tail _ (by assumption))))
local macro_rules | `(tactic| walk_at "CompSrcT") => `(tactic| (k_here; k_dflt (refine LCt.CompSrcT.ledger (by rfl) (by k_asm) (by k_asm) (by k_mem) ?ksz ?_; (case ksz => simp only [refs, List.size_toArray, List.length_map, sizeLine]; omega); intro g')))
noncomputable def PT (news : List (Addr × Obj)) (pa pb : Addr → Int) (x : Addr) : Prop := (∃ ta tb n, (x, pairO (.int (pa x) ta) (.int (pb x) tb) n) ∈ news) ∧ Nm0 (pa x) (pb x)
theorem sub5 {p q a b c : Addr × Obj} {r : List (Addr × Obj)} : ∀ x ∈ a :: b :: c :: p :: r, x ∈ p :: q :: a :: b :: c :: r := by
  intro x hx
  simp only [List.mem_cons] at hx ⊢
  rcases hx with h | h | h | h | h <;> simp [h]
theorem Off1.mem {D : Addr} : ∀ {l : List (Addr × Obj)}, LCg.Off1 D l → ∀ p ∈ l, p.1 ≠ D
  | [], _, _, h => nomatch h
  | _ :: _, x, p, h => by
    rcases List.mem_cons.mp h with rfl | h
    · exact x.1
    · exact Off1.mem x.2 p h
theorem IT.grow {n1 : List (Addr × Obj)} {ka kb : Addr → Int} {xs : List Addr} {D : Addr} {o : Obj} {a b : Int} (hit : ∀ x ∈ xs, IT n1 ka kb x) (hD : ∀ p ∈ n1, p.1 < D) (hnew : ItemIn ((D, o) :: n1) D a b) (hnm : Nm a b) :
    ∃ ka' kb', (∀ x ∈ xs ++ [D], IT ((D, o) :: n1) ka' kb' x) ∧ nms ka' kb' (xs ++ [D]) = nms ka kb xs ++ [(a, b)] ∧ ∀ x ∈ xs, kx ka' kb' x = kx ka kb x := by
  have hne : ∀ x ∈ xs, x ≠ D := fun x hx e => by
    obtain ⟨⟨y, tn, ta, tb, n, k, h1, _⟩, _⟩ := hit x hx
    have := hD _ h1
    rw [e] at this
    exact absurd this (Nat.lt_irrefl _)
  refine ⟨fun z => if z = D then a else ka z, fun z => if z = D then b else kb z, ?_, ?_, ?_⟩
  · intro x hx
    rcases List.mem_append.mp hx with hx | hx
    · have := (hit x hx).mono (news' := (D, o) :: n1) fun p hp => .tail _ hp
      unfold IT
      simp only [if_neg (hne x hx)]
      exact this
    · rw [List.mem_singleton.mp hx]
      unfold IT
      simp only [if_pos]
      exact ⟨hnew, hnm⟩
  · unfold nms
    rw [List.map_append]
    congr 1
    · refine List.map_congr_left fun x hx => ?_
      simp only [if_neg (hne x hx)]
    · simp
  · intro x hx
    show key (if x = D then a else ka x) (if x = D then b else kb x) = key (ka x) (kb x)
    rw [if_neg (hne x hx), if_neg (hne x hx)]
theorem permOff {h₀ h : Heap} {L : Addr} {a b c d : Addr × Obj} {r : List (Addr × Obj)} (N : News h₀ L h (a :: b :: c :: d :: r)) : News h₀ L h (d :: a :: c :: r) := fun q hq => N q (by
  simp only [List.mem_cons] at hq ⊢
  rcases hq with h | h | h | h <;> simp [h])
theorem off_next {h₀ h : Heap} {L D9 D0 D8 D : Addr} {o0 oD : Obj} {rest : List (Addr × Obj)} {ka kb : Addr → Int} {vs : List Addr} {a b : Int} {t1 t2 t3 : Tok} {n8 n9 : Nat}
   (N : News h₀ L h ((D9, pairO (.int (nrm a b) t3) (.ref D8) n9) :: (D0, o0) :: (D8, pairO (.int a t1) (.int b t2) n8) :: (D, oD) :: rest)) (itv : ∀ x ∈ vs, IT rest ka kb x) (l : ∀ p ∈ rest, p.1 < D9) (l8 : D8 < D9) (lD : D < D9) (hD8 : D < D8) (hne : ∀ q ∈ rest, q.1 ≠ D) (hnm : Nm a b) :
   ∃ ka' kb' rest2, News h₀ L h ((D, oD) :: rest2) ∧ (∀ p ∈ rest, p ∈ rest2) ∧ (∀ q ∈ rest2, q.1 ≠ D) ∧ (∀ x ∈ vs ++ [D9], IT rest2 ka' kb' x) ∧ nms ka' kb' (vs ++ [D9]) = nms ka kb vs ++ [(a, b)] ∧ ∀ x ∈ vs, kx ka' kb' x = kx ka kb x := by
  obtain ⟨ka', kb', q1, q2, q3⟩ := IT.grow (n1 := (D8, pairO (.int a t1) (.int b t2) n8) :: rest) (D := D9) (o := pairO (.int (nrm a b) t3) (.ref D8) n9) (a := a) (b := b)
    (fun x hx => (itv x hx).mono fun p hp => .tail _ hp) (List.forall_mem_cons.mpr ⟨l8, l⟩) ⟨_, _, _, _, _, _, .head _, .tail _ (.head _)⟩ hnm
  exact ⟨ka', kb', _, permOff N, fun p hp => .tail _ (.tail _ hp), List.forall_mem_cons.mpr ⟨Nat.ne_of_gt lD, List.forall_mem_cons.mpr ⟨Nat.ne_of_gt hD8, hne⟩⟩, q1, q2, q3⟩
theorem sumN (ka kb : Addr → Int) (xs : List Addr) : (xs.map fun x => (nrm (ka x) (kb x)).toNat).sum = ((nms ka kb xs).map fun p => (nrm p.1 p.2).toNat).sum := by
  rw [nms, List.map_map]; rfl
theorem off_con (w : World) (mean : ExcName → Option Value) (mg mb : Str → Option Value) (l : Addr) (ys : List Addr) (pa pb : Addr → Int) (e : Nat) (news : List (Addr × Obj))
   (hl : (l, listOf (refs ys) e) ∈ news) (hp : ∀ y ∈ ys, PT news pa pb y) (hlen : ys.length ≤ 5) :
   Con w mean mg mb 157 news [.ref l] 8
     (fun news' v => ∃ D g h t1 t2 n, v = .ref D ∧ Nm0 g h ∧ Same [(g, h)] (nms pa pb ys) ∧ (∀ p ∈ news, p ∈ news') ∧ (D, pairO (.int g t1) (.int h t2) n) ∈ news') := by
  unfold Con; k_fill
  intro pr ls dp un gd cn cs a ccd cl outer A₀ base h₀ L m s Q E B F X N T hk hd hu hret
  ((refine wpAny_call ?_; k_dflt ktr_enter; refine acut ?_; intro _))
  (repeat' ((fail_if_success (with_reducible show LCt.CompRestT _ _ _ _ _ _ _ _ _ _ _ _ _ _ _ _ _ _ _ _)); (fail_if_success (with_reducible show wpAny _ _ (exec (Stmt.While _ _ _ _) _) _ _ _)); (fail_if_success (with_reducible show wpAny _ _ (call (Value.ref 28) _) _ _ _)); first | (k_unfold; (try dsimp only)) | (k_end; wrow_close) | ((with_reducible show wpAny _ _ (exec (Stmt.Assign [_] (Expr.ListComp _ _ _ _) _) _) _ _ _); with_reducible ((k_here; k_dflt (refine LCt.Assign_ListComp_T (F₀ := by k_asm) (by rfl) (by with_unfolding_all rfl) (by with_unfolding_all rfl) (by decide) (by rfl) (by decide) (by rfl) (by rfl) (by rfl) ?_); k_dflt lct_toSrc))) | (with_reducible ((k_here; (with_reducible show wpAny _ _ (call (Value.ref 49) _) _ _ _); k_dflt (refine' (heapify_con _ _ _ _ _ _ _ _ _ _ ?ka ?kb ?kc) _ _ _ _ _ _ _ _ _ _ _ _ _ _ _ _ _ _ _ ?k1 ?k2 ?k3 ?k4 ?k5 ?kK ?kd ?ku ?_; (((case k1 => first | k_asm | ktn_no "the frames below"); (case k2 => first | k_asm | ktn_no "the frame"); (case k3 => first | k_asm | ktn_no "the written part"); (case k4 => first | k_asm | ktn_no "the ledger"); (case k5 => first | k_asm | ktn_no "the top"); (case kK => first | exact rfl | assumption | ktn_no "no def"); (case kd => first | ktr_room | ktn_no "the room"); (case ku => first | ktr_units | ktn_no "the units"))); (case ka => assumption); (case kb => assumption); (case kc => omega)); intro v' news' h' tk' F' N' hr'; obtain ⟨hv', hn'⟩ := hr'; subst hv'; subst hn'))) | ((with_reducible show wpAny _ _ (call (Value.builtin "len") _) _ _ _); with_reducible ((k_here; (with_reducible show wpAny _ _ (call _ [Value.ref _]) _ _ _); k_dflt (refine' refs_len ?k1 ?k2 ?k3 ?_; (case k1 => k_asm); (case k2 => k_mem); (case k3 => omega); k_whole)))) | (with_reducible ((k_here; (with_reducible show wpAny _ _ (call (Value.ref 152) _) _ _ _); k_dflt (refine' (rest_con _ _ _ _ _ _ _ _ _ _ _ _ _ _ _ _ _ ?ka ?kb ?kc ?kd1) _ _ _ _ _ _ _ _ _ _ _ _ _ _ _ _ _ _ _ ?k1 ?k2 ?k3 ?k4 ?k5 ?kK ?kd ?ku ?_; (((case k1 => first | k_asm | ktn_no "the frames below"); (case k2 => first | k_asm | ktn_no "the frame"); (case k3 => first | k_asm | ktn_no "the written part"); (case k4 => first | k_asm | ktn_no "the ledger"); (case k5 => first | k_asm | ktn_no "the top"); (case kK => first | exact rfl | assumption | ktn_no "no def"); (case kd => first | ktr_room | ktn_no "the room"); (case ku => first | ktr_units | ktn_no "the units"))); (case ka => k_mem); (case kb => k_mem); (case kc => assumption); (case kd1 => assumption)); intro v' news' h' tk' F' N' hr'; obtain ⟨D', t1', t2', hv', l1, hn'⟩ := hr'; subst hv'; subst hn'; (try k_lt l1)))) | (with_reducible ((k_here; (with_reducible show wpAny _ _ (call (Value.ref 138) _) _ _ _); k_dflt (refine' (norm_con _ _ _ _ _ _ _ _ _ _ _ ?ka ?kb ?kc) _ _ _ _ _ _ _ _ _ _ _ _ _ _ _ _ _ _ _ ?k1 ?k2 ?k3 ?k4 ?k5 ?kK ?kd ?ku ?_; (((case k1 => first | k_asm | ktn_no "the frames below"); (case k2 => first | k_asm | ktn_no "the frame"); (case k3 => first | k_asm | ktn_no "the written part"); (case k4 => first | k_asm | ktn_no "the ledger"); (case k5 => first | k_asm | ktn_no "the top"); (case kK => first | exact rfl | assumption | ktn_no "no def"); (case kd => first | ktr_room | ktn_no "the room"); (case ku => first | ktr_units | ktn_no "the units"))); (case ka => k_mem); (case kb => omega); (case kc => omega)); intro v' news' h' tk' F' N' hr'; obtain ⟨hn', t1', hv'⟩ := hr'; subst hv'; subst hn'))) | (with_reducible ((k_here; (with_reducible show wpAny _ _ (call (Value.ref 42) _) _ _ _); k_dflt (refine' (rep2 _ _ _ _ _ _ _ _ _ _ _ _ _ ?ka ?kb ?kc ?kd1 ?ke) _ _ _ _ _ _ _ _ _ _ _ _ _ _ _ _ _ _ _ ?k1 ?k2 ?k3 ?k4 ?k5 ?kK ?kd ?ku ?_; (((case k1 => first | k_asm | ktn_no "the frames below"); (case k2 => first | k_asm | ktn_no "the frame"); (case k3 => first | k_asm | ktn_no "the written part"); (case k4 => first | k_asm | ktn_no "the ledger"); (case k5 => first | k_asm | ktn_no "the top"); (case kK => first | exact rfl | assumption | ktn_no "no def"); (case kd => first | ktr_room | ktn_no "the room"); (case ku => first | ktr_units | ktn_no "the units"))); (case ka => assumption); (case kb => assumption); (case kc => assumption); (case kd1 => omega); (case ke => assumption)); intro v' news' h' tk' F' N' hr'; obtain ⟨hv', hn'⟩ := hr'; subst hv'; subst hn'))) | (with_reducible ((k_here; (with_reducible show wpAny _ _ (call (Value.ref 35) _) _ _ _); k_dflt (refine' (pop2 _ _ _ _ _ _ _ _ _ _ _ _ _ ?ka ?kb ?kc ?kd1 ?ke) _ _ _ _ _ _ _ _ _ _ _ _ _ _ _ _ _ _ _ ?k1 ?k2 ?k3 ?k4 ?k5 ?kK ?kd ?ku ?_; (((case k1 => first | k_asm | ktn_no "the frames below"); (case k2 => first | k_asm | ktn_no "the frame"); (case k3 => first | k_asm | ktn_no "the written part"); (case k4 => first | k_asm | ktn_no "the ledger"); (case k5 => first | k_asm | ktn_no "the top"); (case kK => first | exact rfl | assumption | ktn_no "no def"); (case kd => first | ktr_room | ktn_no "the room"); (case ku => first | ktr_units | ktn_no "the units"))); (case ka => assumption); (case kb => assumption); (case kc => assumption); (case kd1 => omega); (case ke => assumption)); intro v' news' h' tk' F' N' hr'; obtain ⟨hv', hn'⟩ := hr'; subst hv'; subst hn'))) | ((with_reducible show wpAny _ _ (execs (_ :: _) _) _ _ _); with_reducible ((refine execs_cut ?_; intro _ _))) | ((with_reducible show wpAny _ _ (callWith _ (Value.ref _) _ _ _) _ _ _); with_reducible ((k_here; k_dflt (first | (refine' callWith_K ?k1 ?k2 ?_; (case k1 => k_asm); (case k2 => k_is); k_whole) | (refine' callWith_K0 ?k1 ?k2 ?_; (case k1 => k_in); (case k2 => k_is); k_whole))))) | ((with_reducible show wpAny _ _ (binaryOp .Mult (Value.int _ _) (Value.float _ _)) _ _ _); with_reducible ((k_here; k_dflt (refine' mulif_safe ?k1 ?_; (case k1 => omega); k_whole)))) | ((with_reducible show wpAny _ _ (binaryOp .Mult (Value.float _ _) (Value.int _ _)) _ _ _); with_reducible ((k_here; k_dflt (refine' mulfi_safe ?k1 ?_; (case k1 => omega); k_whole)))) | ((with_reducible show wpAny _ _ (binaryOp .Mod (Value.float _ _) (Value.float _ _)) _ _ _); with_reducible ((k_here; k_dflt (refine' fmod_safe ?k1 ?k2 ?_; (case k1 => with_unfolding_all rfl); (case k2 => decide +kernel); k_whole)))) | ((with_reducible show wpAny _ _ (binaryOp .Div (Value.float _ _) (Value.float _ _)) _ _ _); with_reducible ((k_here; k_dflt (refine' fdiv_safe ?k1 ?k2 ?_; (case k1 => with_unfolding_all rfl); (case k2 => decide +kernel); k_whole)))) | ((with_reducible show wpAny _ _ (binaryOp .Div (Value.int _ _) (Value.int _ _)) _ _ _); with_reducible ((k_here; k_dflt (refine' div_safe ?k1 ?k2 ?k3 ?_; (case k1 => with_unfolding_all rfl); (case k2 => omega); (case k3 => omega); k_whole)))) | ((with_reducible show wpAny _ _ (call (Value.builtin "min") _) _ _ _); with_reducible ((k_here; (with_reducible show wpAny _ _ (call (Value.builtin _) [Value.int _ _, Value.int _ _, Value.int _ _]) _ _ _); k_dflt (refine' min3_N ?k1 ?k2 ?k3 ?_; (case k1 => with_unfolding_all rfl); (case k2 => k_asm); (case k3 => k_asm); k_whole); intro h' tk' tt' F' N'; (try k_sweep)))) | ((with_reducible show wpAny _ _ (call (Value.builtin "max") _) _ _ _); with_reducible ((k_here; (with_reducible show wpAny _ _ (call (Value.builtin _) [Value.int _ _, Value.int _ _, Value.int _ _]) _ _ _); k_dflt (refine' max3_N ?k1 ?k2 ?k3 ?_; (case k1 => with_unfolding_all rfl); (case k2 => k_asm); (case k3 => k_asm); k_whole); intro h' tk' tt' F' N'; (try k_sweep)))) | walk1 | dsimp only | (leave1; walk_say "STEP leave1"; try dsimp only) | fail "no step"))
  refine CompRestT.ind (fun i zs news1 => ∃ (xs : List Addr) (ka kb : Addr → Int), zs = xs.map Value.ref ∧ (∀ p ∈ news, p ∈ news1) ∧ (∀ x ∈ xs, IT news1 ka kb x) ∧ xs.length ≤ i ∧ Same (nms ka kb xs) (nms pa pb (ys.take i))) ?z ?step ?fin
  case z => exact ⟨[], fun _ => 0, fun _ => 0, rfl, fun _ h => h, (by intro x hx; cases hx), Nat.le_refl _, Same.refl _⟩
  case step =>
    intro i zs news1 v I oI C oC D m₂ h tk E' hi hJ hv hC hx F1 N1 off ne
    obtain ⟨xs, ka, kb, rfl, hsub, hit, hle, hsame⟩ := hJ
    have hi' : i < ys.length := by simpa [refs] using hi
    have hv' : v = .ref ys[i] := by simpa [refs, hi'] using hv.symm
    subst hv'
    have hpi := hp ys[i] (List.getElem_mem _)
    have hnext : nms pa pb (ys.take (i + 1)) = nms pa pb (ys.take i) ++ [(pa ys[i], pb ys[i])] := by
      show List.map _ (List.take (i + 1) ys) = _
      rw [List.take_succ_eq_append_getElem hi', List.map_append]; rfl
    generalize ys[i] = y at hx hpi hnext
    obtain ⟨⟨ta, tb, n, hy⟩, hnm⟩ := hpi
    have hy1 := hsub _ hy
    generalize pa y = ya at *
    generalize pb y = yb at *
    dsimp only
    (repeat' (first | (k_unfold; (try dsimp only)) | (k_end; wrow_close) | ((with_reducible show wpAny _ _ (exec (Stmt.Assign [_] (Expr.ListComp _ _ _ _) _) _) _ _ _); with_reducible ((k_here; k_dflt (refine LCt.Assign_ListComp_T (F₀ := by k_asm) (by rfl) (by with_unfolding_all rfl) (by with_unfolding_all rfl) (by decide) (by rfl) (by decide) (by rfl) (by rfl) (by rfl) ?_); k_dflt lct_toSrc))) | (with_reducible ((k_here; (with_reducible show wpAny _ _ (call (Value.ref 49) _) _ _ _); k_dflt (refine' (heapify_con _ _ _ _ _ _ _ _ _ _ ?ka ?kb ?kc) _ _ _ _ _ _ _ _ _ _ _ _ _ _ _ _ _ _ _ ?k1 ?k2 ?k3 ?k4 ?k5 ?kK ?kd ?ku ?_; (((case k1 => first | k_asm | ktn_no "the frames below"); (case k2 => first | k_asm | ktn_no "the frame"); (case k3 => first | k_asm | ktn_no "the written part"); (case k4 => first | k_asm | ktn_no "the ledger"); (case k5 => first | k_asm | ktn_no "the top"); (case kK => first | exact rfl | assumption | ktn_no "no def"); (case kd => first | ktr_room | ktn_no "the room"); (case ku => first | ktr_units | ktn_no "the units"))); (case ka => assumption); (case kb => assumption); (case kc => omega)); intro v' news' h' tk' F' N' hr'; obtain ⟨hv', hn'⟩ := hr'; subst hv'; subst hn'))) | ((with_reducible show wpAny _ _ (call (Value.builtin "len") _) _ _ _); with_reducible ((k_here; (with_reducible show wpAny _ _ (call _ [Value.ref _]) _ _ _); k_dflt (refine' refs_len ?k1 ?k2 ?k3 ?_; (case k1 => k_asm); (case k2 => k_mem); (case k3 => omega); k_whole)))) | (with_reducible ((k_here; (with_reducible show wpAny _ _ (call (Value.ref 152) _) _ _ _); k_dflt (refine' (rest_con _ _ _ _ _ _ _ _ _ _ _ _ _ _ _ _ _ ?ka ?kb ?kc ?kd1) _ _ _ _ _ _ _ _ _ _ _ _ _ _ _ _ _ _ _ ?k1 ?k2 ?k3 ?k4 ?k5 ?kK ?kd ?ku ?_; (((case k1 => first | k_asm | ktn_no "the frames below"); (case k2 => first | k_asm | ktn_no "the frame"); (case k3 => first | k_asm | ktn_no "the written part"); (case k4 => first | k_asm | ktn_no "the ledger"); (case k5 => first | k_asm | ktn_no "the top"); (case kK => first | exact rfl | assumption | ktn_no "no def"); (case kd => first | ktr_room | ktn_no "the room"); (case ku => first | ktr_units | ktn_no "the units"))); (case ka => k_mem); (case kb => k_mem); (case kc => assumption); (case kd1 => assumption)); intro v' news' h' tk' F' N' hr'; obtain ⟨D', t1', t2', hv', l1, hn'⟩ := hr'; subst hv'; subst hn'; (try k_lt l1)))) | (with_reducible ((k_here; (with_reducible show wpAny _ _ (call (Value.ref 138) _) _ _ _); k_dflt (refine' (norm_con _ _ _ _ _ _ _ _ _ _ _ ?ka ?kb ?kc) _ _ _ _ _ _ _ _ _ _ _ _ _ _ _ _ _ _ _ ?k1 ?k2 ?k3 ?k4 ?k5 ?kK ?kd ?ku ?_; (((case k1 => first | k_asm | ktn_no "the frames below"); (case k2 => first | k_asm | ktn_no "the frame"); (case k3 => first | k_asm | ktn_no "the written part"); (case k4 => first | k_asm | ktn_no "the ledger"); (case k5 => first | k_asm | ktn_no "the top"); (case kK => first | exact rfl | assumption | ktn_no "no def"); (case kd => first | ktr_room | ktn_no "the room"); (case ku => first | ktr_units | ktn_no "the units"))); (case ka => k_mem); (case kb => omega); (case kc => omega)); intro v' news' h' tk' F' N' hr'; obtain ⟨hn', t1', hv'⟩ := hr'; subst hv'; subst hn'))) | (with_reducible ((k_here; (with_reducible show wpAny _ _ (call (Value.ref 42) _) _ _ _); k_dflt (refine' (rep2 _ _ _ _ _ _ _ _ _ _ _ _ _ ?ka ?kb ?kc ?kd1 ?ke) _ _ _ _ _ _ _ _ _ _ _ _ _ _ _ _ _ _ _ ?k1 ?k2 ?k3 ?k4 ?k5 ?kK ?kd ?ku ?_; (((case k1 => first | k_asm | ktn_no "the frames below"); (case k2 => first | k_asm | ktn_no "the frame"); (case k3 => first | k_asm | ktn_no "the written part"); (case k4 => first | k_asm | ktn_no "the ledger"); (case k5 => first | k_asm | ktn_no "the top"); (case kK => first | exact rfl | assumption | ktn_no "no def"); (case kd => first | ktr_room | ktn_no "the room"); (case ku => first | ktr_units | ktn_no "the units"))); (case ka => assumption); (case kb => assumption); (case kc => assumption); (case kd1 => omega); (case ke => assumption)); intro v' news' h' tk' F' N' hr'; obtain ⟨hv', hn'⟩ := hr'; subst hv'; subst hn'))) | (with_reducible ((k_here; (with_reducible show wpAny _ _ (call (Value.ref 35) _) _ _ _); k_dflt (refine' (pop2 _ _ _ _ _ _ _ _ _ _ _ _ _ ?ka ?kb ?kc ?kd1 ?ke) _ _ _ _ _ _ _ _ _ _ _ _ _ _ _ _ _ _ _ ?k1 ?k2 ?k3 ?k4 ?k5 ?kK ?kd ?ku ?_; (((case k1 => first | k_asm | ktn_no "the frames below"); (case k2 => first | k_asm | ktn_no "the frame"); (case k3 => first | k_asm | ktn_no "the written part"); (case k4 => first | k_asm | ktn_no "the ledger"); (case k5 => first | k_asm | ktn_no "the top"); (case kK => first | exact rfl | assumption | ktn_no "no def"); (case kd => first | ktr_room | ktn_no "the room"); (case ku => first | ktr_units | ktn_no "the units"))); (case ka => assumption); (case kb => assumption); (case kc => assumption); (case kd1 => omega); (case ke => assumption)); intro v' news' h' tk' F' N' hr'; obtain ⟨hv', hn'⟩ := hr'; subst hv'; subst hn'))) | ((with_reducible show wpAny _ _ (execs (_ :: _) _) _ _ _); with_reducible ((refine execs_cut ?_; intro _ _))) | ((with_reducible show wpAny _ _ (callWith _ (Value.ref _) _ _ _) _ _ _); with_reducible ((k_here; k_dflt (first | (refine' callWith_K ?k1 ?k2 ?_; (case k1 => k_asm); (case k2 => k_is); k_whole) | (refine' callWith_K0 ?k1 ?k2 ?_; (case k1 => k_in); (case k2 => k_is); k_whole))))) | ((with_reducible show wpAny _ _ (binaryOp .Mult (Value.int _ _) (Value.float _ _)) _ _ _); with_reducible ((k_here; k_dflt (refine' mulif_safe ?k1 ?_; (case k1 => omega); k_whole)))) | ((with_reducible show wpAny _ _ (binaryOp .Mult (Value.float _ _) (Value.int _ _)) _ _ _); with_reducible ((k_here; k_dflt (refine' mulfi_safe ?k1 ?_; (case k1 => omega); k_whole)))) | ((with_reducible show wpAny _ _ (binaryOp .Mod (Value.float _ _) (Value.float _ _)) _ _ _); with_reducible ((k_here; k_dflt (refine' fmod_safe ?k1 ?k2 ?_; (case k1 => with_unfolding_all rfl); (case k2 => decide +kernel); k_whole)))) | ((with_reducible show wpAny _ _ (binaryOp .Div (Value.float _ _) (Value.float _ _)) _ _ _); with_reducible ((k_here; k_dflt (refine' fdiv_safe ?k1 ?k2 ?_; (case k1 => with_unfolding_all rfl); (case k2 => decide +kernel); k_whole)))) | ((with_reducible show wpAny _ _ (binaryOp .Div (Value.int _ _) (Value.int _ _)) _ _ _); with_reducible ((k_here; k_dflt (refine' div_safe ?k1 ?k2 ?k3 ?_; (case k1 => with_unfolding_all rfl); (case k2 => omega); (case k3 => omega); k_whole)))) | ((with_reducible show wpAny _ _ (call (Value.builtin "min") _) _ _ _); with_reducible ((k_here; (with_reducible show wpAny _ _ (call (Value.builtin _) [Value.int _ _, Value.int _ _, Value.int _ _]) _ _ _); k_dflt (refine' min3_N ?k1 ?k2 ?k3 ?_; (case k1 => with_unfolding_all rfl); (case k2 => k_asm); (case k3 => k_asm); k_whole); intro h' tk' tt' F' N'; (try k_sweep)))) | ((with_reducible show wpAny _ _ (call (Value.builtin "max") _) _ _ _); with_reducible ((k_here; (with_reducible show wpAny _ _ (call (Value.builtin _) [Value.int _ _, Value.int _ _, Value.int _ _]) _ _ _); k_dflt (refine' max3_N ?k1 ?k2 ?k3 ?_; (case k1 => with_unfolding_all rfl); (case k2 => k_asm); (case k3 => k_asm); k_whole); intro h' tk' tt' F' N'; (try k_sweep)))) | walk1 | dsimp only | (leave1; walk_say "STEP leave1"; try dsimp only)))
    · rename_i D9 h9 F9 N9 l9 hz
      have hz0 : ya = 0 ∧ yb = 0 := by simpa using hz
      obtain ⟨rfl, rfl⟩ := hz0
      refine LCg.CompEnd.intro F9 N9 news1 (by intro p hp; simp only [List.mem_cons] at hp ⊢; rcases hp with h | h | h | h <;> simp [h]) (LCg.Off3.of off) (Or.inr ⟨_, hsub _ hl, rfl, _, rfl⟩) ?_
      exact ⟨xs, ka, kb, rfl, hsub, hit, Nat.le_succ_of_le hle, by rw [hnext]; exact hsame.trans Same.zero.symm⟩
    · rename_i D9 h9 F9 N9 l9
      obtain ⟨l91, l92, l93, l94, l95⟩ := l9
      have hnm' : Nm ya yb := by
        rcases hnm with h | ⟨h1, h2⟩
        · exact h
        · exfalso
          rename (ya == 0 && yb == 0) = false => hz
          subst h1 h2
          exact absurd hz (by decide)
      refine LCg.CompEnd.intro F9 N9 (_ :: news1) sub5 ⟨⟨Nat.ne_of_gt l92, Nat.ne_of_gt l93, Nat.ne_of_gt l94⟩, LCg.Off3.of off⟩ (Or.inr ⟨_, List.Mem.tail _ (hsub _ hl), rfl, _, rfl⟩) ?_
      obtain ⟨ka', kb', q1, q2, _⟩ := IT.grow (D := D9) (o := pairO (.int (nrm ya yb) _) (.ref y) _) hit (ktn_ltOf l95) ⟨y, _, _, _, _, _, .head _, .tail _ hy1⟩ hnm'
      exact ⟨xs ++ [D9], ka', kb', by simp, fun p hp => .tail _ (hsub p hp), q1, by simp; omega, by rw [q2, hnext]; exact hsame.app (Same.refl _)⟩
  case fin =>
    intro zs news1 ⟨xs, ka, kb, hzs, hsub, hit, hle, hsame⟩
    subst hzs
    have hlx : xs.length ≤ 5 := by simp [refs] at hle; omega
    rw [List.take_of_length_le (by simp [refs])] at hsame
    intro D h tk F1 N1 o1
    have hne := Off1.mem o1
    dsimp only
    (repeat' ((fail_if_success (with_reducible show LCt.CompRestT _ _ _ _ _ _ _ _ _ _ _ _ _ _ _ _ _ _ _ _)); (fail_if_success (with_reducible show wpAny _ _ (exec (Stmt.While _ _ _ _) _) _ _ _)); (fail_if_success (with_reducible show wpAny _ _ (call (Value.ref 28) _) _ _ _)); first | (k_unfold; (try dsimp only)) | (k_end; wrow_close) | ((with_reducible show wpAny _ _ (exec (Stmt.Assign [_] (Expr.ListComp _ _ _ _) _) _) _ _ _); with_reducible ((k_here; k_dflt (refine LCt.Assign_ListComp_T (F₀ := by k_asm) (by rfl) (by with_unfolding_all rfl) (by with_unfolding_all rfl) (by decide) (by rfl) (by decide) (by rfl) (by rfl) (by rfl) ?_); k_dflt lct_toSrc))) | (with_reducible ((k_here; (with_reducible show wpAny _ _ (call (Value.ref 49) _) _ _ _); k_dflt (refine' (heapify_con _ _ _ _ _ _ _ _ _ _ ?ka ?kb ?kc) _ _ _ _ _ _ _ _ _ _ _ _ _ _ _ _ _ _ _ ?k1 ?k2 ?k3 ?k4 ?k5 ?kK ?kd ?ku ?_; (((case k1 => first | k_asm | ktn_no "the frames below"); (case k2 => first | k_asm | ktn_no "the frame"); (case k3 => first | k_asm | ktn_no "the written part"); (case k4 => first | k_asm | ktn_no "the ledger"); (case k5 => first | k_asm | ktn_no "the top"); (case kK => first | exact rfl | assumption | ktn_no "no def"); (case kd => first | ktr_room | ktn_no "the room"); (case ku => first | ktr_units | ktn_no "the units"))); (case ka => assumption); (case kb => assumption); (case kc => omega)); intro v' news' h' tk' F' N' hr'; obtain ⟨hv', hn'⟩ := hr'; subst hv'; subst hn'))) | ((with_reducible show wpAny _ _ (call (Value.builtin "len") _) _ _ _); with_reducible ((k_here; (with_reducible show wpAny _ _ (call _ [Value.ref _]) _ _ _); k_dflt (refine' refs_len ?k1 ?k2 ?k3 ?_; (case k1 => k_asm); (case k2 => k_mem); (case k3 => omega); k_whole)))) | (with_reducible ((k_here; (with_reducible show wpAny _ _ (call (Value.ref 152) _) _ _ _); k_dflt (refine' (rest_con _ _ _ _ _ _ _ _ _ _ _ _ _ _ _ _ _ ?ka ?kb ?kc ?kd1) _ _ _ _ _ _ _ _ _ _ _ _ _ _ _ _ _ _ _ ?k1 ?k2 ?k3 ?k4 ?k5 ?kK ?kd ?ku ?_; (((case k1 => first | k_asm | ktn_no "the frames below"); (case k2 => first | k_asm | ktn_no "the frame"); (case k3 => first | k_asm | ktn_no "the written part"); (case k4 => first | k_asm | ktn_no "the ledger"); (case k5 => first | k_asm | ktn_no "the top"); (case kK => first | exact rfl | assumption | ktn_no "no def"); (case kd => first | ktr_room | ktn_no "the room"); (case ku => first | ktr_units | ktn_no "the units"))); (case ka => k_mem); (case kb => k_mem); (case kc => assumption); (case kd1 => assumption)); intro v' news' h' tk' F' N' hr'; obtain ⟨D', t1', t2', hv', l1, hn'⟩ := hr'; subst hv'; subst hn'; (try k_lt l1)))) | (with_reducible ((k_here; (with_reducible show wpAny _ _ (call (Value.ref 138) _) _ _ _); k_dflt (refine' (norm_con _ _ _ _ _ _ _ _ _ _ _ ?ka ?kb ?kc) _ _ _ _ _ _ _ _ _ _ _ _ _ _ _ _ _ _ _ ?k1 ?k2 ?k3 ?k4 ?k5 ?kK ?kd ?ku ?_; (((case k1 => first | k_asm | ktn_no "the frames below"); (case k2 => first | k_asm | ktn_no "the frame"); (case k3 => first | k_asm | ktn_no "the written part"); (case k4 => first | k_asm | ktn_no "the ledger"); (case k5 => first | k_asm | ktn_no "the top"); (case kK => first | exact rfl | assumption | ktn_no "no def"); (case kd => first | ktr_room | ktn_no "the room"); (case ku => first | ktr_units | ktn_no "the units"))); (case ka => k_mem); (case kb => omega); (case kc => omega)); intro v' news' h' tk' F' N' hr'; obtain ⟨hn', t1', hv'⟩ := hr'; subst hv'; subst hn'))) | (with_reducible ((k_here; (with_reducible show wpAny _ _ (call (Value.ref 42) _) _ _ _); k_dflt (refine' (rep2 _ _ _ _ _ _ _ _ _ _ _ _ _ ?ka ?kb ?kc ?kd1 ?ke) _ _ _ _ _ _ _ _ _ _ _ _ _ _ _ _ _ _ _ ?k1 ?k2 ?k3 ?k4 ?k5 ?kK ?kd ?ku ?_; (((case k1 => first | k_asm | ktn_no "the frames below"); (case k2 => first | k_asm | ktn_no "the frame"); (case k3 => first | k_asm | ktn_no "the written part"); (case k4 => first | k_asm | ktn_no "the ledger"); (case k5 => first | k_asm | ktn_no "the top"); (case kK => first | exact rfl | assumption | ktn_no "no def"); (case kd => first | ktr_room | ktn_no "the room"); (case ku => first | ktr_units | ktn_no "the units"))); (case ka => assumption); (case kb => assumption); (case kc => assumption); (case kd1 => omega); (case ke => assumption)); intro v' news' h' tk' F' N' hr'; obtain ⟨hv', hn'⟩ := hr'; subst hv'; subst hn'))) | (with_reducible ((k_here; (with_reducible show wpAny _ _ (call (Value.ref 35) _) _ _ _); k_dflt (refine' (pop2 _ _ _ _ _ _ _ _ _ _ _ _ _ ?ka ?kb ?kc ?kd1 ?ke) _ _ _ _ _ _ _ _ _ _ _ _ _ _ _ _ _ _ _ ?k1 ?k2 ?k3 ?k4 ?k5 ?kK ?kd ?ku ?_; (((case k1 => first | k_asm | ktn_no "the frames below"); (case k2 => first | k_asm | ktn_no "the frame"); (case k3 => first | k_asm | ktn_no "the written part"); (case k4 => first | k_asm | ktn_no "the ledger"); (case k5 => first | k_asm | ktn_no "the top"); (case kK => first | exact rfl | assumption | ktn_no "no def"); (case kd => first | ktr_room | ktn_no "the room"); (case ku => first | ktr_units | ktn_no "the units"))); (case ka => assumption); (case kb => assumption); (case kc => assumption); (case kd1 => omega); (case ke => assumption)); intro v' news' h' tk' F' N' hr'; obtain ⟨hv', hn'⟩ := hr'; subst hv'; subst hn'))) | ((with_reducible show wpAny _ _ (execs (_ :: _) _) _ _ _); with_reducible ((refine execs_cut ?_; intro _ _))) | ((with_reducible show wpAny _ _ (callWith _ (Value.ref _) _ _ _) _ _ _); with_reducible ((k_here; k_dflt (first | (refine' callWith_K ?k1 ?k2 ?_; (case k1 => k_asm); (case k2 => k_is); k_whole) | (refine' callWith_K0 ?k1 ?k2 ?_; (case k1 => k_in); (case k2 => k_is); k_whole))))) | ((with_reducible show wpAny _ _ (binaryOp .Mult (Value.int _ _) (Value.float _ _)) _ _ _); with_reducible ((k_here; k_dflt (refine' mulif_safe ?k1 ?_; (case k1 => omega); k_whole)))) | ((with_reducible show wpAny _ _ (binaryOp .Mult (Value.float _ _) (Value.int _ _)) _ _ _); with_reducible ((k_here; k_dflt (refine' mulfi_safe ?k1 ?_; (case k1 => omega); k_whole)))) | ((with_reducible show wpAny _ _ (binaryOp .Mod (Value.float _ _) (Value.float _ _)) _ _ _); with_reducible ((k_here; k_dflt (refine' fmod_safe ?k1 ?k2 ?_; (case k1 => with_unfolding_all rfl); (case k2 => decide +kernel); k_whole)))) | ((with_reducible show wpAny _ _ (binaryOp .Div (Value.float _ _) (Value.float _ _)) _ _ _); with_reducible ((k_here; k_dflt (refine' fdiv_safe ?k1 ?k2 ?_; (case k1 => with_unfolding_all rfl); (case k2 => decide +kernel); k_whole)))) | ((with_reducible show wpAny _ _ (binaryOp .Div (Value.int _ _) (Value.int _ _)) _ _ _); with_reducible ((k_here; k_dflt (refine' div_safe ?k1 ?k2 ?k3 ?_; (case k1 => with_unfolding_all rfl); (case k2 => omega); (case k3 => omega); k_whole)))) | ((with_reducible show wpAny _ _ (call (Value.builtin "min") _) _ _ _); with_reducible ((k_here; (with_reducible show wpAny _ _ (call (Value.builtin _) [Value.int _ _, Value.int _ _, Value.int _ _]) _ _ _); k_dflt (refine' min3_N ?k1 ?k2 ?k3 ?_; (case k1 => with_unfolding_all rfl); (case k2 => k_asm); (case k3 => k_asm); k_whole); intro h' tk' tt' F' N'; (try k_sweep)))) | ((with_reducible show wpAny _ _ (call (Value.builtin "max") _) _ _ _); with_reducible ((k_here; (with_reducible show wpAny _ _ (call (Value.builtin _) [Value.int _ _, Value.int _ _, Value.int _ _]) _ _ _); k_dflt (refine' max3_N ?k1 ?k2 ?k3 ?_; (case k1 => with_unfolding_all rfl); (case k2 => k_asm); (case k3 => k_asm); k_whole); intro h' tk' tt' F' N'; (try k_sweep)))) | walk1 | dsimp only | (leave1; walk_say "STEP leave1"; try dsimp only) | fail "no step"))
    rename Fr _ _ _ _ => F2
    rename News _ _ _ _ => N2
    have hG := heap_all (κ := kx ka kb) hlx
    refine While_inv2L (fun n m1 news2 => ∃ (m' : Str → Option Value) (xs : List Addr) (ka kb : Addr → Int) (e' : Nat) (rest : List (Addr × Obj)), m1 = (fun y => if y = Str.ofString "heap" then some (.ref D) else m' y) ∧
        news2 = (D, listOf (refs xs) e') :: rest ∧ (∀ p ∈ news, p ∈ rest) ∧ (∀ q ∈ rest, q.1 ≠ D) ∧ (∀ x ∈ xs, IT rest ka kb x) ∧ Hp5 (kx ka kb) xs ∧ xs.length ≤ 5 ∧ Same (nms ka kb xs) (nms pa pb ys) ∧ n = (xs.map fun x => (nrm (ka x) (kb x)).toNat).sum)
      F2 N2 ⟨_, _, ka, kb, _, news1, pins1 rfl, rfl, hsub, hne, fun x hx => hit x ((hG.2.1 x).mp hx), hG.1, by rw [hG.2.2.2]; exact hlx, hG.2.same.trans hsame, rfl⟩ ?_
    clear F1 N1 F2 N2 hG hsame hit hsub hle hlx hne o1
    clear xs ka kb news1
    intro n m1 news2 h1 tk1 F3 N3 J W9
    obtain ⟨m', xs, ka, kb, e', rest, rfl, rfl, hsub, hne, hit, hH, hl5, hsame, hn⟩ := J
    by_cases h2 : 1 < xs.length
    · obtain ⟨x0, r, z, rfl⟩ : ∃ x0 r z, xs = (x0 :: r) ++ [z] := by
        match xs, h2 with
        | a :: b :: t, _ => exact ⟨a, (b :: t).dropLast, (b :: t).getLast (by simp), by rw [List.cons_append, List.dropLast_concat_getLast]⟩
      obtain ⟨y, us, vs, p1, p2, p3, p4, p10, p5, p6, p7, p8, p9⟩ := turn_pure hH hl5
      have hmx : ∀ x, x ∈ (x0 :: r) ++ [z] ↔ x ∈ y :: vs := fun x => by
        have a1 := p6 x
        have a2 := p7 x
        simp only [List.cons_append, List.mem_cons, List.mem_append, List.not_mem_nil, or_false] at a1 a2 ⊢
        grind
      have hl6 : r.length ≤ 3 := by simp at hl5; omega
      have hl7 : (y :: us).length ≤ 6 := by simp; omega
      have itx := hit x0 (by simp)
      have ity := hit y (by have := (p6 y).mp (.head _); rcases List.mem_cons.mp this with h | h <;> simp [h])
      have itz := hit z (by simp)
      have itr : ∀ x ∈ x0 :: r, IT rest ka kb x := fun x hx => hit x (List.mem_append.mpr (.inl hx))
      have itu : ∀ x ∈ y :: us, IT rest ka kb x := fun x hx => hit x (by have := (p6 x).mp hx; rcases List.mem_cons.mp this with h | h <;> simp [h])
      have itv : ∀ x ∈ vs, IT rest ka kb x := fun x hx => by
        rcases List.mem_cons.mp ((p7 x).mp hx) with h | h
        · rw [h]; exact itx
        · exact itu x (.tail _ h)
      obtain ⟨⟨y0, tn, ta, tb, n1, n2, mx1, mx2⟩, nmx⟩ := id itx
      obtain ⟨⟨y1, tn', ta', tb', n1', n2', my1, my2⟩, nmy⟩ := id ity
      have hrest := (rest_all nmy nmx).2.2.2
      have hra : -100 < rsA (ka y) (kb y) (ka x0) (kb x0) ∧ rsA (ka y) (kb y) (ka x0) (kb x0) < 100 := by rcases hrest with h | ⟨h, _⟩ <;> (unfold Nm at *; omega)
      have hrb : -100 < rsB (ka y) (kb y) (ka x0) (kb x0) ∧ rsB (ka y) (kb y) (ka x0) (kb x0) < 100 := by rcases hrest with h | ⟨h, _⟩ <;> (unfold Nm at *; omega)
      (repeat' ((fail_if_success (with_reducible show LCt.CompRestT _ _ _ _ _ _ _ _ _ _ _ _ _ _ _ _ _ _ _ _)); (fail_if_success (with_reducible show wpAny _ _ (exec (Stmt.While _ _ _ _) _) _ _ _)); (fail_if_success (with_reducible show wpAny _ _ (call (Value.ref 28) _) _ _ _)); first | (k_unfold; (try dsimp only)) | (k_end; wrow_close) | ((with_reducible show wpAny _ _ (exec (Stmt.Assign [_] (Expr.ListComp _ _ _ _) _) _) _ _ _); with_reducible ((k_here; k_dflt (refine LCt.Assign_ListComp_T (F₀ := by k_asm) (by rfl) (by with_unfolding_all rfl) (by with_unfolding_all rfl) (by decide) (by rfl) (by decide) (by rfl) (by rfl) (by rfl) ?_); k_dflt lct_toSrc))) | (with_reducible ((k_here; (with_reducible show wpAny _ _ (call (Value.ref 49) _) _ _ _); k_dflt (refine' (heapify_con _ _ _ _ _ _ _ _ _ _ ?ka ?kb ?kc) _ _ _ _ _ _ _ _ _ _ _ _ _ _ _ _ _ _ _ ?k1 ?k2 ?k3 ?k4 ?k5 ?kK ?kd ?ku ?_; (((case k1 => first | k_asm | ktn_no "the frames below"); (case k2 => first | k_asm | ktn_no "the frame"); (case k3 => first | k_asm | ktn_no "the written part"); (case k4 => first | k_asm | ktn_no "the ledger"); (case k5 => first | k_asm | ktn_no "the top"); (case kK => first | exact rfl | assumption | ktn_no "no def"); (case kd => first | ktr_room | ktn_no "the room"); (case ku => first | ktr_units | ktn_no "the units"))); (case ka => assumption); (case kb => assumption); (case kc => omega)); intro v' news' h' tk' F' N' hr'; obtain ⟨hv', hn'⟩ := hr'; subst hv'; subst hn'))) | ((with_reducible show wpAny _ _ (call (Value.builtin "len") _) _ _ _); with_reducible ((k_here; (with_reducible show wpAny _ _ (call _ [Value.ref _]) _ _ _); k_dflt (refine' refs_len ?k1 ?k2 ?k3 ?_; (case k1 => k_asm); (case k2 => k_mem); (case k3 => omega); k_whole)))) | (with_reducible ((k_here; (with_reducible show wpAny _ _ (call (Value.ref 152) _) _ _ _); k_dflt (refine' (rest_con _ _ _ _ _ _ _ _ _ _ _ _ _ _ _ _ _ ?ka ?kb ?kc ?kd1) _ _ _ _ _ _ _ _ _ _ _ _ _ _ _ _ _ _ _ ?k1 ?k2 ?k3 ?k4 ?k5 ?kK ?kd ?ku ?_; (((case k1 => first | k_asm | ktn_no "the frames below"); (case k2 => first | k_asm | ktn_no "the frame"); (case k3 => first | k_asm | ktn_no "the written part"); (case k4 => first | k_asm | ktn_no "the ledger"); (case k5 => first | k_asm | ktn_no "the top"); (case kK => first | exact rfl | assumption | ktn_no "no def"); (case kd => first | ktr_room | ktn_no "the room"); (case ku => first | ktr_units | ktn_no "the units"))); (case ka => k_mem); (case kb => k_mem); (case kc => assumption); (case kd1 => assumption)); intro v' news' h' tk' F' N' hr'; obtain ⟨D', t1', t2', hv', l1, hn'⟩ := hr'; subst hv'; subst hn'; (try k_lt l1)))) | (with_reducible ((k_here; (with_reducible show wpAny _ _ (call (Value.ref 138) _) _ _ _); k_dflt (refine' (norm_con _ _ _ _ _ _ _ _ _ _ _ ?ka ?kb ?kc) _ _ _ _ _ _ _ _ _ _ _ _ _ _ _ _ _ _ _ ?k1 ?k2 ?k3 ?k4 ?k5 ?kK ?kd ?ku ?_; (((case k1 => first | k_asm | ktn_no "the frames below"); (case k2 => first | k_asm | ktn_no "the frame"); (case k3 => first | k_asm | ktn_no "the written part"); (case k4 => first | k_asm | ktn_no "the ledger"); (case k5 => first | k_asm | ktn_no "the top"); (case kK => first | exact rfl | assumption | ktn_no "no def"); (case kd => first | ktr_room | ktn_no "the room"); (case ku => first | ktr_units | ktn_no "the units"))); (case ka => k_mem); (case kb => omega); (case kc => omega)); intro v' news' h' tk' F' N' hr'; obtain ⟨hn', t1', hv'⟩ := hr'; subst hv'; subst hn'))) | (with_reducible ((k_here; (with_reducible show wpAny _ _ (call (Value.ref 42) _) _ _ _); k_dflt (refine' (rep2 _ _ _ _ _ _ _ _ _ _ _ _ _ ?ka ?kb ?kc ?kd1 ?ke) _ _ _ _ _ _ _ _ _ _ _ _ _ _ _ _ _ _ _ ?k1 ?k2 ?k3 ?k4 ?k5 ?kK ?kd ?ku ?_; (((case k1 => first | k_asm | ktn_no "the frames below"); (case k2 => first | k_asm | ktn_no "the frame"); (case k3 => first | k_asm | ktn_no "the written part"); (case k4 => first | k_asm | ktn_no "the ledger"); (case k5 => first | k_asm | ktn_no "the top"); (case kK => first | exact rfl | assumption | ktn_no "no def"); (case kd => first | ktr_room | ktn_no "the room"); (case ku => first | ktr_units | ktn_no "the units"))); (case ka => assumption); (case kb => assumption); (case kc => assumption); (case kd1 => omega); (case ke => assumption)); intro v' news' h' tk' F' N' hr'; obtain ⟨hv', hn'⟩ := hr'; subst hv'; subst hn'))) | (with_reducible ((k_here; (with_reducible show wpAny _ _ (call (Value.ref 35) _) _ _ _); k_dflt (refine' (pop2 _ _ _ _ _ _ _ _ _ _ _ _ _ ?ka ?kb ?kc ?kd1 ?ke) _ _ _ _ _ _ _ _ _ _ _ _ _ _ _ _ _ _ _ ?k1 ?k2 ?k3 ?k4 ?k5 ?kK ?kd ?ku ?_; (((case k1 => first | k_asm | ktn_no "the frames below"); (case k2 => first | k_asm | ktn_no "the frame"); (case k3 => first | k_asm | ktn_no "the written part"); (case k4 => first | k_asm | ktn_no "the ledger"); (case k5 => first | k_asm | ktn_no "the top"); (case kK => first | exact rfl | assumption | ktn_no "no def"); (case kd => first | ktr_room | ktn_no "the room"); (case ku => first | ktr_units | ktn_no "the units"))); (case ka => assumption); (case kb => assumption); (case kc => assumption); (case kd1 => omega); (case ke => assumption)); intro v' news' h' tk' F' N' hr'; obtain ⟨hv', hn'⟩ := hr'; subst hv'; subst hn'))) | ((with_reducible show wpAny _ _ (execs (_ :: _) _) _ _ _); with_reducible ((refine execs_cut ?_; intro _ _))) | ((with_reducible show wpAny _ _ (callWith _ (Value.ref _) _ _ _) _ _ _); with_reducible ((k_here; k_dflt (first | (refine' callWith_K ?k1 ?k2 ?_; (case k1 => k_asm); (case k2 => k_is); k_whole) | (refine' callWith_K0 ?k1 ?k2 ?_; (case k1 => k_in); (case k2 => k_is); k_whole))))) | ((with_reducible show wpAny _ _ (binaryOp .Mult (Value.int _ _) (Value.float _ _)) _ _ _); with_reducible ((k_here; k_dflt (refine' mulif_safe ?k1 ?_; (case k1 => omega); k_whole)))) | ((with_reducible show wpAny _ _ (binaryOp .Mult (Value.float _ _) (Value.int _ _)) _ _ _); with_reducible ((k_here; k_dflt (refine' mulfi_safe ?k1 ?_; (case k1 => omega); k_whole)))) | ((with_reducible show wpAny _ _ (binaryOp .Mod (Value.float _ _) (Value.float _ _)) _ _ _); with_reducible ((k_here; k_dflt (refine' fmod_safe ?k1 ?k2 ?_; (case k1 => with_unfolding_all rfl); (case k2 => decide +kernel); k_whole)))) | ((with_reducible show wpAny _ _ (binaryOp .Div (Value.float _ _) (Value.float _ _)) _ _ _); with_reducible ((k_here; k_dflt (refine' fdiv_safe ?k1 ?k2 ?_; (case k1 => with_unfolding_all rfl); (case k2 => decide +kernel); k_whole)))) | ((with_reducible show wpAny _ _ (binaryOp .Div (Value.int _ _) (Value.int _ _)) _ _ _); with_reducible ((k_here; k_dflt (refine' div_safe ?k1 ?k2 ?k3 ?_; (case k1 => with_unfolding_all rfl); (case k2 => omega); (case k3 => omega); k_whole)))) | ((with_reducible show wpAny _ _ (call (Value.builtin "min") _) _ _ _); with_reducible ((k_here; (with_reducible show wpAny _ _ (call (Value.builtin _) [Value.int _ _, Value.int _ _, Value.int _ _]) _ _ _); k_dflt (refine' min3_N ?k1 ?k2 ?k3 ?_; (case k1 => with_unfolding_all rfl); (case k2 => k_asm); (case k3 => k_asm); k_whole); intro h' tk' tt' F' N'; (try k_sweep)))) | ((with_reducible show wpAny _ _ (call (Value.builtin "max") _) _ _ _); with_reducible ((k_here; (with_reducible show wpAny _ _ (call (Value.builtin _) [Value.int _ _, Value.int _ _, Value.int _ _]) _ _ _); k_dflt (refine' max3_N ?k1 ?k2 ?k3 ?_; (case k1 => with_unfolding_all rfl); (case k2 => k_asm); (case k3 => k_asm); k_whole); intro h' tk' tt' F' N'; (try k_sweep)))) | walk1 | dsimp only | (leave1; walk_say "STEP leave1"; try dsimp only) | fail "no step"))
      · rename Fr _ _ _ _ => F4
        rename News _ _ _ _ => N4
        rename (_ && _) = true => hz
        have hz0 : rsA (ka y) (kb y) (ka x0) (kb x0) = 0 ∧ rsB (ka y) (kb y) (ka x0) (kb x0) = 0 := by simpa using hz
        have hS := turn_same hmx p5 nmy nmx
        rw [hz0.1, hz0.2] at hS
        exact ⟨_, _, _, _, _, rfl, F4, drop1 (drop1 N4), (by rw [hn, p9]; have := (nrm_pos nmy).1; omega : (vs.map fun x => (nrm (ka x) (kb x)).toNat).sum < n), _, vs, ka, kb, _, rest, pins1 rfl, rfl, hsub, hne, itv, p3, by omega, (Same.zero.symm.trans hS).trans hsame, rfl⟩
      · rename_i D9 h9 F9 N9 l9
        rename (_ && _) = false => hz
        have hz0 : ¬ (rsA (ka y) (kb y) (ka x0) (kb x0) = 0 ∧ rsB (ka y) (kb y) (ka x0) (kb x0) = 0) := by
          rintro ⟨e1, e2⟩
          rw [e1, e2] at hz
          exact absurd hz (by decide)
        obtain ⟨hnr, hlt⟩ := hrest.resolve_left hz0
        obtain ⟨l91, l92, l93, l94⟩ := l9
        have l95 := ktn_ltOf l94
        rename D < _ ∧ AllLt _ rest => l8
        have hxy : nrm (ka x0) (kb x0) ≤ nrm (ka y) (kb y) := key_nrm nmx nmy p8
        obtain ⟨ka', kb', rest2, N10, hs2, hn2, q1, q2, q3⟩ := off_next N9 itv l95 l92 l93 l8.1 hne hnr
        clear N9
        have hGp := push_all (κ := kx ka' kb') (x := D9) (Hp5.congr p3 q3) (by omega)
        refine' (push_con _ _ _ _ D D9 vs _ ka' kb' rest2 hn2 (fun x hx => q1 x (List.mem_append.mpr (.inl hx))) (q1 D9 (by simp)) (by omega)) _ _ _ _ _ _ _ _ _ _ _ _ _ _ _ _ _ _ _ ?k1 ?k2 ?k3 ?k4 ?k5 ?kK ?kd ?ku ?_
        (((case k1 => first | k_asm | ktn_no "the frames below"); (case k2 => first | k_asm | ktn_no "the frame"); (case k3 => first | k_asm | ktn_no "the written part"); (case k4 => first | k_asm | ktn_no "the ledger"); (case k5 => first | k_asm | ktn_no "the top"); (case kK => first | exact rfl | assumption | ktn_no "no def"); (case kd => first | ktr_room | ktn_no "the room"); (case ku => first | ktr_units | ktn_no "the units")))
        intro v' news' h' tk' F' N' hr'
        obtain ⟨hv', hn'⟩ := hr'
        subst hv' hn'
        (repeat' ((fail_if_success (with_reducible show LCt.CompRestT _ _ _ _ _ _ _ _ _ _ _ _ _ _ _ _ _ _ _ _)); (fail_if_success (with_reducible show wpAny _ _ (exec (Stmt.While _ _ _ _) _) _ _ _)); (fail_if_success (with_reducible show wpAny _ _ (call (Value.ref 28) _) _ _ _)); first | (k_unfold; (try dsimp only)) | (k_end; wrow_close) | ((with_reducible show wpAny _ _ (exec (Stmt.Assign [_] (Expr.ListComp _ _ _ _) _) _) _ _ _); with_reducible ((k_here; k_dflt (refine LCt.Assign_ListComp_T (F₀ := by k_asm) (by rfl) (by with_unfolding_all rfl) (by with_unfolding_all rfl) (by decide) (by rfl) (by decide) (by rfl) (by rfl) (by rfl) ?_); k_dflt lct_toSrc))) | (with_reducible ((k_here; (with_reducible show wpAny _ _ (call (Value.ref 49) _) _ _ _); k_dflt (refine' (heapify_con _ _ _ _ _ _ _ _ _ _ ?ka ?kb ?kc) _ _ _ _ _ _ _ _ _ _ _ _ _ _ _ _ _ _ _ ?k1 ?k2 ?k3 ?k4 ?k5 ?kK ?kd ?ku ?_; (((case k1 => first | k_asm | ktn_no "the frames below"); (case k2 => first | k_asm | ktn_no "the frame"); (case k3 => first | k_asm | ktn_no "the written part"); (case k4 => first | k_asm | ktn_no "the ledger"); (case k5 => first | k_asm | ktn_no "the top"); (case kK => first | exact rfl | assumption | ktn_no "no def"); (case kd => first | ktr_room | ktn_no "the room"); (case ku => first | ktr_units | ktn_no "the units"))); (case ka => assumption); (case kb => assumption); (case kc => omega)); intro v' news' h' tk' F' N' hr'; obtain ⟨hv', hn'⟩ := hr'; subst hv'; subst hn'))) | ((with_reducible show wpAny _ _ (call (Value.builtin "len") _) _ _ _); with_reducible ((k_here; (with_reducible show wpAny _ _ (call _ [Value.ref _]) _ _ _); k_dflt (refine' refs_len ?k1 ?k2 ?k3 ?_; (case k1 => k_asm); (case k2 => k_mem); (case k3 => omega); k_whole)))) | (with_reducible ((k_here; (with_reducible show wpAny _ _ (call (Value.ref 152) _) _ _ _); k_dflt (refine' (rest_con _ _ _ _ _ _ _ _ _ _ _ _ _ _ _ _ _ ?ka ?kb ?kc ?kd1) _ _ _ _ _ _ _ _ _ _ _ _ _ _ _ _ _ _ _ ?k1 ?k2 ?k3 ?k4 ?k5 ?kK ?kd ?ku ?_; (((case k1 => first | k_asm | ktn_no "the frames below"); (case k2 => first | k_asm | ktn_no "the frame"); (case k3 => first | k_asm | ktn_no "the written part"); (case k4 => first | k_asm | ktn_no "the ledger"); (case k5 => first | k_asm | ktn_no "the top"); (case kK => first | exact rfl | assumption | ktn_no "no def"); (case kd => first | ktr_room | ktn_no "the room"); (case ku => first | ktr_units | ktn_no "the units"))); (case ka => k_mem); (case kb => k_mem); (case kc => assumption); (case kd1 => assumption)); intro v' news' h' tk' F' N' hr'; obtain ⟨D', t1', t2', hv', l1, hn'⟩ := hr'; subst hv'; subst hn'; (try k_lt l1)))) | (with_reducible ((k_here; (with_reducible show wpAny _ _ (call (Value.ref 138) _) _ _ _); k_dflt (refine' (norm_con _ _ _ _ _ _ _ _ _ _ _ ?ka ?kb ?kc) _ _ _ _ _ _ _ _ _ _ _ _ _ _ _ _ _ _ _ ?k1 ?k2 ?k3 ?k4 ?k5 ?kK ?kd ?ku ?_; (((case k1 => first | k_asm | ktn_no "the frames below"); (case k2 => first | k_asm | ktn_no "the frame"); (case k3 => first | k_asm | ktn_no "the written part"); (case k4 => first | k_asm | ktn_no "the ledger"); (case k5 => first | k_asm | ktn_no "the top"); (case kK => first | exact rfl | assumption | ktn_no "no def"); (case kd => first | ktr_room | ktn_no "the room"); (case ku => first | ktr_units | ktn_no "the units"))); (case ka => k_mem); (case kb => omega); (case kc => omega)); intro v' news' h' tk' F' N' hr'; obtain ⟨hn', t1', hv'⟩ := hr'; subst hv'; subst hn'))) | (with_reducible ((k_here; (with_reducible show wpAny _ _ (call (Value.ref 42) _) _ _ _); k_dflt (refine' (rep2 _ _ _ _ _ _ _ _ _ _ _ _ _ ?ka ?kb ?kc ?kd1 ?ke) _ _ _ _ _ _ _ _ _ _ _ _ _ _ _ _ _ _ _ ?k1 ?k2 ?k3 ?k4 ?k5 ?kK ?kd ?ku ?_; (((case k1 => first | k_asm | ktn_no "the frames below"); (case k2 => first | k_asm | ktn_no "the frame"); (case k3 => first | k_asm | ktn_no "the written part"); (case k4 => first | k_asm | ktn_no "the ledger"); (case k5 => first | k_asm | ktn_no "the top"); (case kK => first | exact rfl | assumption | ktn_no "no def"); (case kd => first | ktr_room | ktn_no "the room"); (case ku => first | ktr_units | ktn_no "the units"))); (case ka => assumption); (case kb => assumption); (case kc => assumption); (case kd1 => omega); (case ke => assumption)); intro v' news' h' tk' F' N' hr'; obtain ⟨hv', hn'⟩ := hr'; subst hv'; subst hn'))) | (with_reducible ((k_here; (with_reducible show wpAny _ _ (call (Value.ref 35) _) _ _ _); k_dflt (refine' (pop2 _ _ _ _ _ _ _ _ _ _ _ _ _ ?ka ?kb ?kc ?kd1 ?ke) _ _ _ _ _ _ _ _ _ _ _ _ _ _ _ _ _ _ _ ?k1 ?k2 ?k3 ?k4 ?k5 ?kK ?kd ?ku ?_; (((case k1 => first | k_asm | ktn_no "the frames below"); (case k2 => first | k_asm | ktn_no "the frame"); (case k3 => first | k_asm | ktn_no "the written part"); (case k4 => first | k_asm | ktn_no "the ledger"); (case k5 => first | k_asm | ktn_no "the top"); (case kK => first | exact rfl | assumption | ktn_no "no def"); (case kd => first | ktr_room | ktn_no "the room"); (case ku => first | ktr_units | ktn_no "the units"))); (case ka => assumption); (case kb => assumption); (case kc => assumption); (case kd1 => omega); (case ke => assumption)); intro v' news' h' tk' F' N' hr'; obtain ⟨hv', hn'⟩ := hr'; subst hv'; subst hn'))) | ((with_reducible show wpAny _ _ (execs (_ :: _) _) _ _ _); with_reducible ((refine execs_cut ?_; intro _ _))) | ((with_reducible show wpAny _ _ (callWith _ (Value.ref _) _ _ _) _ _ _); with_reducible ((k_here; k_dflt (first | (refine' callWith_K ?k1 ?k2 ?_; (case k1 => k_asm); (case k2 => k_is); k_whole) | (refine' callWith_K0 ?k1 ?k2 ?_; (case k1 => k_in); (case k2 => k_is); k_whole))))) | ((with_reducible show wpAny _ _ (binaryOp .Mult (Value.int _ _) (Value.float _ _)) _ _ _); with_reducible ((k_here; k_dflt (refine' mulif_safe ?k1 ?_; (case k1 => omega); k_whole)))) | ((with_reducible show wpAny _ _ (binaryOp .Mult (Value.float _ _) (Value.int _ _)) _ _ _); with_reducible ((k_here; k_dflt (refine' mulfi_safe ?k1 ?_; (case k1 => omega); k_whole)))) | ((with_reducible show wpAny _ _ (binaryOp .Mod (Value.float _ _) (Value.float _ _)) _ _ _); with_reducible ((k_here; k_dflt (refine' fmod_safe ?k1 ?k2 ?_; (case k1 => with_unfolding_all rfl); (case k2 => decide +kernel); k_whole)))) | ((with_reducible show wpAny _ _ (binaryOp .Div (Value.float _ _) (Value.float _ _)) _ _ _); with_reducible ((k_here; k_dflt (refine' fdiv_safe ?k1 ?k2 ?_; (case k1 => with_unfolding_all rfl); (case k2 => decide +kernel); k_whole)))) | ((with_reducible show wpAny _ _ (binaryOp .Div (Value.int _ _) (Value.int _ _)) _ _ _); with_reducible ((k_here; k_dflt (refine' div_safe ?k1 ?k2 ?k3 ?_; (case k1 => with_unfolding_all rfl); (case k2 => omega); (case k3 => omega); k_whole)))) | ((with_reducible show wpAny _ _ (call (Value.builtin "min") _) _ _ _); with_reducible ((k_here; (with_reducible show wpAny _ _ (call (Value.builtin _) [Value.int _ _, Value.int _ _, Value.int _ _]) _ _ _); k_dflt (refine' min3_N ?k1 ?k2 ?k3 ?_; (case k1 => with_unfolding_all rfl); (case k2 => k_asm); (case k3 => k_asm); k_whole); intro h' tk' tt' F' N'; (try k_sweep)))) | ((with_reducible show wpAny _ _ (call (Value.builtin "max") _) _ _ _); with_reducible ((k_here; (with_reducible show wpAny _ _ (call (Value.builtin _) [Value.int _ _, Value.int _ _, Value.int _ _]) _ _ _); k_dflt (refine' max3_N ?k1 ?k2 ?k3 ?_; (case k1 => with_unfolding_all rfl); (case k2 => k_asm); (case k3 => k_asm); k_whole); intro h' tk' tt' F' N'; (try k_sweep)))) | walk1 | dsimp only | (leave1; walk_say "STEP leave1"; try dsimp only) | fail "no step"))
        rename Fr _ _ _ _ => F4
        rename News _ _ _ _ => N4
        have hS := turn_same hmx p5 nmy nmx
        refine ⟨_, _, _, _, _, rfl, F4, N4, ?_, _, pushL (kx ka' kb') vs D9, ka', kb', _, rest2, pins1 rfl, rfl, fun p hp => hs2 p (hsub p hp), hn2, fun x hx => q1 x ((hGp.2.1 x).mp hx), hGp.1, by rw [hGp.2.2.2]; simp; omega, hGp.2.same.trans (by rw [q2]; exact hS.trans hsame), rfl⟩
        rw [hGp.2.2.1, sumN, q2, hn, p9, sumN]
        simp only [List.map_append, List.map_cons, List.map_nil, List.sum_append, List.sum_cons, List.sum_nil]
        have := (nrm_pos nmx).1
        have := (nrm_pos hnr).1
        omega
    · match xs, h2, hit, hsame with
      | [], _, _, hsame =>
        (repeat' ((fail_if_success (with_reducible show LCt.CompRestT _ _ _ _ _ _ _ _ _ _ _ _ _ _ _ _ _ _ _ _)); (fail_if_success (with_reducible show wpAny _ _ (exec (Stmt.While _ _ _ _) _) _ _ _)); (fail_if_success (with_reducible show wpAny _ _ (call (Value.ref 28) _) _ _ _)); first | (k_unfold; (try dsimp only)) | (k_end; wrow_close) | ((with_reducible show wpAny _ _ (exec (Stmt.Assign [_] (Expr.ListComp _ _ _ _) _) _) _ _ _); with_reducible ((k_here; k_dflt (refine LCt.Assign_ListComp_T (F₀ := by k_asm) (by rfl) (by with_unfolding_all rfl) (by with_unfolding_all rfl) (by decide) (by rfl) (by decide) (by rfl) (by rfl) (by rfl) ?_); k_dflt lct_toSrc))) | (with_reducible ((k_here; (with_reducible show wpAny _ _ (call (Value.ref 49) _) _ _ _); k_dflt (refine' (heapify_con _ _ _ _ _ _ _ _ _ _ ?ka ?kb ?kc) _ _ _ _ _ _ _ _ _ _ _ _ _ _ _ _ _ _ _ ?k1 ?k2 ?k3 ?k4 ?k5 ?kK ?kd ?ku ?_; (((case k1 => first | k_asm | ktn_no "the frames below"); (case k2 => first | k_asm | ktn_no "the frame"); (case k3 => first | k_asm | ktn_no "the written part"); (case k4 => first | k_asm | ktn_no "the ledger"); (case k5 => first | k_asm | ktn_no "the top"); (case kK => first | exact rfl | assumption | ktn_no "no def"); (case kd => first | ktr_room | ktn_no "the room"); (case ku => first | ktr_units | ktn_no "the units"))); (case ka => assumption); (case kb => assumption); (case kc => omega)); intro v' news' h' tk' F' N' hr'; obtain ⟨hv', hn'⟩ := hr'; subst hv'; subst hn'))) | ((with_reducible show wpAny _ _ (call (Value.builtin "len") _) _ _ _); with_reducible ((k_here; (with_reducible show wpAny _ _ (call _ [Value.ref _]) _ _ _); k_dflt (refine' refs_len ?k1 ?k2 ?k3 ?_; (case k1 => k_asm); (case k2 => k_mem); (case k3 => omega); k_whole)))) | (with_reducible ((k_here; (with_reducible show wpAny _ _ (call (Value.ref 152) _) _ _ _); k_dflt (refine' (rest_con _ _ _ _ _ _ _ _ _ _ _ _ _ _ _ _ _ ?ka ?kb ?kc ?kd1) _ _ _ _ _ _ _ _ _ _ _ _ _ _ _ _ _ _ _ ?k1 ?k2 ?k3 ?k4 ?k5 ?kK ?kd ?ku ?_; (((case k1 => first | k_asm | ktn_no "the frames below"); (case k2 => first | k_asm | ktn_no "the frame"); (case k3 => first | k_asm | ktn_no "the written part"); (case k4 => first | k_asm | ktn_no "the ledger"); (case k5 => first | k_asm | ktn_no "the top"); (case kK => first | exact rfl | assumption | ktn_no "no def"); (case kd => first | ktr_room | ktn_no "the room"); (case ku => first | ktr_units | ktn_no "the units"))); (case ka => k_mem); (case kb => k_mem); (case kc => assumption); (case kd1 => assumption)); intro v' news' h' tk' F' N' hr'; obtain ⟨D', t1', t2', hv', l1, hn'⟩ := hr'; subst hv'; subst hn'; (try k_lt l1)))) | (with_reducible ((k_here; (with_reducible show wpAny _ _ (call (Value.ref 138) _) _ _ _); k_dflt (refine' (norm_con _ _ _ _ _ _ _ _ _ _ _ ?ka ?kb ?kc) _ _ _ _ _ _ _ _ _ _ _ _ _ _ _ _ _ _ _ ?k1 ?k2 ?k3 ?k4 ?k5 ?kK ?kd ?ku ?_; (((case k1 => first | k_asm | ktn_no "the frames below"); (case k2 => first | k_asm | ktn_no "the frame"); (case k3 => first | k_asm | ktn_no "the written part"); (case k4 => first | k_asm | ktn_no "the ledger"); (case k5 => first | k_asm | ktn_no "the top"); (case kK => first | exact rfl | assumption | ktn_no "no def"); (case kd => first | ktr_room | ktn_no "the room"); (case ku => first | ktr_units | ktn_no "the units"))); (case ka => k_mem); (case kb => omega); (case kc => omega)); intro v' news' h' tk' F' N' hr'; obtain ⟨hn', t1', hv'⟩ := hr'; subst hv'; subst hn'))) | (with_reducible ((k_here; (with_reducible show wpAny _ _ (call (Value.ref 42) _) _ _ _); k_dflt (refine' (rep2 _ _ _ _ _ _ _ _ _ _ _ _ _ ?ka ?kb ?kc ?kd1 ?ke) _ _ _ _ _ _ _ _ _ _ _ _ _ _ _ _ _ _ _ ?k1 ?k2 ?k3 ?k4 ?k5 ?kK ?kd ?ku ?_; (((case k1 => first | k_asm | ktn_no "the frames below"); (case k2 => first | k_asm | ktn_no "the frame"); (case k3 => first | k_asm | ktn_no "the written part"); (case k4 => first | k_asm | ktn_no "the ledger"); (case k5 => first | k_asm | ktn_no "the top"); (case kK => first | exact rfl | assumption | ktn_no "no def"); (case kd => first | ktr_room | ktn_no "the room"); (case ku => first | ktr_units | ktn_no "the units"))); (case ka => assumption); (case kb => assumption); (case kc => assumption); (case kd1 => omega); (case ke => assumption)); intro v' news' h' tk' F' N' hr'; obtain ⟨hv', hn'⟩ := hr'; subst hv'; subst hn'))) | (with_reducible ((k_here; (with_reducible show wpAny _ _ (call (Value.ref 35) _) _ _ _); k_dflt (refine' (pop2 _ _ _ _ _ _ _ _ _ _ _ _ _ ?ka ?kb ?kc ?kd1 ?ke) _ _ _ _ _ _ _ _ _ _ _ _ _ _ _ _ _ _ _ ?k1 ?k2 ?k3 ?k4 ?k5 ?kK ?kd ?ku ?_; (((case k1 => first | k_asm | ktn_no "the frames below"); (case k2 => first | k_asm | ktn_no "the frame"); (case k3 => first | k_asm | ktn_no "the written part"); (case k4 => first | k_asm | ktn_no "the ledger"); (case k5 => first | k_asm | ktn_no "the top"); (case kK => first | exact rfl | assumption | ktn_no "no def"); (case kd => first | ktr_room | ktn_no "the room"); (case ku => first | ktr_units | ktn_no "the units"))); (case ka => assumption); (case kb => assumption); (case kc => assumption); (case kd1 => omega); (case ke => assumption)); intro v' news' h' tk' F' N' hr'; obtain ⟨hv', hn'⟩ := hr'; subst hv'; subst hn'))) | ((with_reducible show wpAny _ _ (execs (_ :: _) _) _ _ _); with_reducible ((refine execs_cut ?_; intro _ _))) | ((with_reducible show wpAny _ _ (callWith _ (Value.ref _) _ _ _) _ _ _); with_reducible ((k_here; k_dflt (first | (refine' callWith_K ?k1 ?k2 ?_; (case k1 => k_asm); (case k2 => k_is); k_whole) | (refine' callWith_K0 ?k1 ?k2 ?_; (case k1 => k_in); (case k2 => k_is); k_whole))))) | ((with_reducible show wpAny _ _ (binaryOp .Mult (Value.int _ _) (Value.float _ _)) _ _ _); with_reducible ((k_here; k_dflt (refine' mulif_safe ?k1 ?_; (case k1 => omega); k_whole)))) | ((with_reducible show wpAny _ _ (binaryOp .Mult (Value.float _ _) (Value.int _ _)) _ _ _); with_reducible ((k_here; k_dflt (refine' mulfi_safe ?k1 ?_; (case k1 => omega); k_whole)))) | ((with_reducible show wpAny _ _ (binaryOp .Mod (Value.float _ _) (Value.float _ _)) _ _ _); with_reducible ((k_here; k_dflt (refine' fmod_safe ?k1 ?k2 ?_; (case k1 => with_unfolding_all rfl); (case k2 => decide +kernel); k_whole)))) | ((with_reducible show wpAny _ _ (binaryOp .Div (Value.float _ _) (Value.float _ _)) _ _ _); with_reducible ((k_here; k_dflt (refine' fdiv_safe ?k1 ?k2 ?_; (case k1 => with_unfolding_all rfl); (case k2 => decide +kernel); k_whole)))) | ((with_reducible show wpAny _ _ (binaryOp .Div (Value.int _ _) (Value.int _ _)) _ _ _); with_reducible ((k_here; k_dflt (refine' div_safe ?k1 ?k2 ?k3 ?_; (case k1 => with_unfolding_all rfl); (case k2 => omega); (case k3 => omega); k_whole)))) | ((with_reducible show wpAny _ _ (call (Value.builtin "min") _) _ _ _); with_reducible ((k_here; (with_reducible show wpAny _ _ (call (Value.builtin _) [Value.int _ _, Value.int _ _, Value.int _ _]) _ _ _); k_dflt (refine' min3_N ?k1 ?k2 ?k3 ?_; (case k1 => with_unfolding_all rfl); (case k2 => k_asm); (case k3 => k_asm); k_whole); intro h' tk' tt' F' N'; (try k_sweep)))) | ((with_reducible show wpAny _ _ (call (Value.builtin "max") _) _ _ _); with_reducible ((k_here; (with_reducible show wpAny _ _ (call (Value.builtin _) [Value.int _ _, Value.int _ _, Value.int _ _]) _ _ _); k_dflt (refine' max3_N ?k1 ?k2 ?k3 ?_; (case k1 => with_unfolding_all rfl); (case k2 => k_asm); (case k3 => k_asm); k_whole); intro h' tk' tt' F' N'; (try k_sweep)))) | walk1 | dsimp only | (leave1; walk_say "STEP leave1"; try dsimp only) | fail "no step"))
        refine hret _ _ _ _ (by k_asm) (by k_asm) ⟨_, 0, 0, _, _, _, rfl, Or.inr ⟨rfl, rfl⟩, (Same.zero (xs := [])).trans hsame, fun p hp => .tail _ (.tail _ (.tail _ (hsub p hp))), .head _⟩
      | [x], _, hit, hsame =>
        have itx := hit x (.head _)
        obtain ⟨⟨y0, tn, ta, tb, n1, n2, mx1, mx2⟩, nmx⟩ := id itx
        (repeat' ((fail_if_success (with_reducible show LCt.CompRestT _ _ _ _ _ _ _ _ _ _ _ _ _ _ _ _ _ _ _ _)); (fail_if_success (with_reducible show wpAny _ _ (exec (Stmt.While _ _ _ _) _) _ _ _)); (fail_if_success (with_reducible show wpAny _ _ (call (Value.ref 28) _) _ _ _)); first | (k_unfold; (try dsimp only)) | (k_end; wrow_close) | ((with_reducible show wpAny _ _ (exec (Stmt.Assign [_] (Expr.ListComp _ _ _ _) _) _) _ _ _); with_reducible ((k_here; k_dflt (refine LCt.Assign_ListComp_T (F₀ := by k_asm) (by rfl) (by with_unfolding_all rfl) (by with_unfolding_all rfl) (by decide) (by rfl) (by decide) (by rfl) (by rfl) (by rfl) ?_); k_dflt lct_toSrc))) | (with_reducible ((k_here; (with_reducible show wpAny _ _ (call (Value.ref 49) _) _ _ _); k_dflt (refine' (heapify_con _ _ _ _ _ _ _ _ _ _ ?ka ?kb ?kc) _ _ _ _ _ _ _ _ _ _ _ _ _ _ _ _ _ _ _ ?k1 ?k2 ?k3 ?k4 ?k5 ?kK ?kd ?ku ?_; (((case k1 => first | k_asm | ktn_no "the frames below"); (case k2 => first | k_asm | ktn_no "the frame"); (case k3 => first | k_asm | ktn_no "the written part"); (case k4 => first | k_asm | ktn_no "the ledger"); (case k5 => first | k_asm | ktn_no "the top"); (case kK => first | exact rfl | assumption | ktn_no "no def"); (case kd => first | ktr_room | ktn_no "the room"); (case ku => first | ktr_units | ktn_no "the units"))); (case ka => assumption); (case kb => assumption); (case kc => omega)); intro v' news' h' tk' F' N' hr'; obtain ⟨hv', hn'⟩ := hr'; subst hv'; subst hn'))) | ((with_reducible show wpAny _ _ (call (Value.builtin "len") _) _ _ _); with_reducible ((k_here; (with_reducible show wpAny _ _ (call _ [Value.ref _]) _ _ _); k_dflt (refine' refs_len ?k1 ?k2 ?k3 ?_; (case k1 => k_asm); (case k2 => k_mem); (case k3 => omega); k_whole)))) | (with_reducible ((k_here; (with_reducible show wpAny _ _ (call (Value.ref 152) _) _ _ _); k_dflt (refine' (rest_con _ _ _ _ _ _ _ _ _ _ _ _ _ _ _ _ _ ?ka ?kb ?kc ?kd1) _ _ _ _ _ _ _ _ _ _ _ _ _ _ _ _ _ _ _ ?k1 ?k2 ?k3 ?k4 ?k5 ?kK ?kd ?ku ?_; (((case k1 => first | k_asm | ktn_no "the frames below"); (case k2 => first | k_asm | ktn_no "the frame"); (case k3 => first | k_asm | ktn_no "the written part"); (case k4 => first | k_asm | ktn_no "the ledger"); (case k5 => first | k_asm | ktn_no "the top"); (case kK => first | exact rfl | assumption | ktn_no "no def"); (case kd => first | ktr_room | ktn_no "the room"); (case ku => first | ktr_units | ktn_no "the units"))); (case ka => k_mem); (case kb => k_mem); (case kc => assumption); (case kd1 => assumption)); intro v' news' h' tk' F' N' hr'; obtain ⟨D', t1', t2', hv', l1, hn'⟩ := hr'; subst hv'; subst hn'; (try k_lt l1)))) | (with_reducible ((k_here; (with_reducible show wpAny _ _ (call (Value.ref 138) _) _ _ _); k_dflt (refine' (norm_con _ _ _ _ _ _ _ _ _ _ _ ?ka ?kb ?kc) _ _ _ _ _ _ _ _ _ _ _ _ _ _ _ _ _ _ _ ?k1 ?k2 ?k3 ?k4 ?k5 ?kK ?kd ?ku ?_; (((case k1 => first | k_asm | ktn_no "the frames below"); (case k2 => first | k_asm | ktn_no "the frame"); (case k3 => first | k_asm | ktn_no "the written part"); (case k4 => first | k_asm | ktn_no "the ledger"); (case k5 => first | k_asm | ktn_no "the top"); (case kK => first | exact rfl | assumption | ktn_no "no def"); (case kd => first | ktr_room | ktn_no "the room"); (case ku => first | ktr_units | ktn_no "the units"))); (case ka => k_mem); (case kb => omega); (case kc => omega)); intro v' news' h' tk' F' N' hr'; obtain ⟨hn', t1', hv'⟩ := hr'; subst hv'; subst hn'))) | (with_reducible ((k_here; (with_reducible show wpAny _ _ (call (Value.ref 42) _) _ _ _); k_dflt (refine' (rep2 _ _ _ _ _ _ _ _ _ _ _ _ _ ?ka ?kb ?kc ?kd1 ?ke) _ _ _ _ _ _ _ _ _ _ _ _ _ _ _ _ _ _ _ ?k1 ?k2 ?k3 ?k4 ?k5 ?kK ?kd ?ku ?_; (((case k1 => first | k_asm | ktn_no "the frames below"); (case k2 => first | k_asm | ktn_no "the frame"); (case k3 => first | k_asm | ktn_no "the written part"); (case k4 => first | k_asm | ktn_no "the ledger"); (case k5 => first | k_asm | ktn_no "the top"); (case kK => first | exact rfl | assumption | ktn_no "no def"); (case kd => first | ktr_room | ktn_no "the room"); (case ku => first | ktr_units | ktn_no "the units"))); (case ka => assumption); (case kb => assumption); (case kc => assumption); (case kd1 => omega); (case ke => assumption)); intro v' news' h' tk' F' N' hr'; obtain ⟨hv', hn'⟩ := hr'; subst hv'; subst hn'))) | (with_reducible ((k_here; (with_reducible show wpAny _ _ (call (Value.ref 35) _) _ _ _); k_dflt (refine' (pop2 _ _ _ _ _ _ _ _ _ _ _ _ _ ?ka ?kb ?kc ?kd1 ?ke) _ _ _ _ _ _ _ _ _ _ _ _ _ _ _ _ _ _ _ ?k1 ?k2 ?k3 ?k4 ?k5 ?kK ?kd ?ku ?_; (((case k1 => first | k_asm | ktn_no "the frames below"); (case k2 => first | k_asm | ktn_no "the frame"); (case k3 => first | k_asm | ktn_no "the written part"); (case k4 => first | k_asm | ktn_no "the ledger"); (case k5 => first | k_asm | ktn_no "the top"); (case kK => first | exact rfl | assumption | ktn_no "no def"); (case kd => first | ktr_room | ktn_no "the room"); (case ku => first | ktr_units | ktn_no "the units"))); (case ka => assumption); (case kb => assumption); (case kc => assumption); (case kd1 => omega); (case ke => assumption)); intro v' news' h' tk' F' N' hr'; obtain ⟨hv', hn'⟩ := hr'; subst hv'; subst hn'))) | ((with_reducible show wpAny _ _ (execs (_ :: _) _) _ _ _); with_reducible ((refine execs_cut ?_; intro _ _))) | ((with_reducible show wpAny _ _ (callWith _ (Value.ref _) _ _ _) _ _ _); with_reducible ((k_here; k_dflt (first | (refine' callWith_K ?k1 ?k2 ?_; (case k1 => k_asm); (case k2 => k_is); k_whole) | (refine' callWith_K0 ?k1 ?k2 ?_; (case k1 => k_in); (case k2 => k_is); k_whole))))) | ((with_reducible show wpAny _ _ (binaryOp .Mult (Value.int _ _) (Value.float _ _)) _ _ _); with_reducible ((k_here; k_dflt (refine' mulif_safe ?k1 ?_; (case k1 => omega); k_whole)))) | ((with_reducible show wpAny _ _ (binaryOp .Mult (Value.float _ _) (Value.int _ _)) _ _ _); with_reducible ((k_here; k_dflt (refine' mulfi_safe ?k1 ?_; (case k1 => omega); k_whole)))) | ((with_reducible show wpAny _ _ (binaryOp .Mod (Value.float _ _) (Value.float _ _)) _ _ _); with_reducible ((k_here; k_dflt (refine' fmod_safe ?k1 ?k2 ?_; (case k1 => with_unfolding_all rfl); (case k2 => decide +kernel); k_whole)))) | ((with_reducible show wpAny _ _ (binaryOp .Div (Value.float _ _) (Value.float _ _)) _ _ _); with_reducible ((k_here; k_dflt (refine' fdiv_safe ?k1 ?k2 ?_; (case k1 => with_unfolding_all rfl); (case k2 => decide +kernel); k_whole)))) | ((with_reducible show wpAny _ _ (binaryOp .Div (Value.int _ _) (Value.int _ _)) _ _ _); with_reducible ((k_here; k_dflt (refine' div_safe ?k1 ?k2 ?k3 ?_; (case k1 => with_unfolding_all rfl); (case k2 => omega); (case k3 => omega); k_whole)))) | ((with_reducible show wpAny _ _ (call (Value.builtin "min") _) _ _ _); with_reducible ((k_here; (with_reducible show wpAny _ _ (call (Value.builtin _) [Value.int _ _, Value.int _ _, Value.int _ _]) _ _ _); k_dflt (refine' min3_N ?k1 ?k2 ?k3 ?_; (case k1 => with_unfolding_all rfl); (case k2 => k_asm); (case k3 => k_asm); k_whole); intro h' tk' tt' F' N'; (try k_sweep)))) | ((with_reducible show wpAny _ _ (call (Value.builtin "max") _) _ _ _); with_reducible ((k_here; (with_reducible show wpAny _ _ (call (Value.builtin _) [Value.int _ _, Value.int _ _, Value.int _ _]) _ _ _); k_dflt (refine' max3_N ?k1 ?k2 ?k3 ?_; (case k1 => with_unfolding_all rfl); (case k2 => k_asm); (case k3 => k_asm); k_whole); intro h' tk' tt' F' N'; (try k_sweep)))) | walk1 | dsimp only | (leave1; walk_say "STEP leave1"; try dsimp only) | fail "no step"))
        refine hret _ _ _ _ (by k_asm) (by k_asm) ⟨_, _, _, _, _, _, rfl, Or.inl nmx, hsame, fun p hp => .tail _ (.tail _ (hsub p hp)), .tail _ (.tail _ mx2)⟩
      | a :: b :: t, h2, _, _ => exact absurd (by simp) h2
end

section
section
variable {prog : Program} {w : World} {A : Around} {E : Value → Shared → Prop} {s₁ : Shared} {h₀ : Heap} {L : Addr} {m : Str → Option Value} {news : List (Addr × Obj)}
/-- a comprehension over a text: each sign is one sign -/
theorem comp_signs {env : Env} {elt : Expr} {x : Str} {scope : Scope} {Q : Value → Shared → Prop} {y : Str} {t : Tok} (d : Str → PyData)
    (hh : A.handled = none) (F : Fr h₀ L s₁.heap m) (N : News h₀ L s₁.heap news) (hsz : y.length ≤ sizeLine)
    (elts : ∀ C c u s₂ m₂ E', s₂.heap.Ns (compEnv scope C env).locals m₂ → m₂ x = some (.str ⟨#[c]⟩ u) → wpAny (model prog w) A (eval elt (compEnv scope C env)) (fun r s₃ => Carried r (d ⟨#[c]⟩) ∧ Keeps s₂ s₃) E' s₂)
    (fin : ∀ D (ys : List Value) h' tk, Fr h₀ L h' m → News h₀ L h' news → h₀.get? D = none → h'.IsList D ys.toArray → NewPlain h' news D ys.toArray → CarriedAll ys ((signs y).map d) → Q (.ref D) { s₁ with heap := h', toks := tk }) :
    wpAny (model prog w) A (pyIter (.str y t)) (CompPost prog w A env scope x [] elt Q) E s₁ := by
  unfold CompPost
  refine wpAny_pyIter_str fun o St W hst => ?_
  have up : ∀ (h' : Heap), (∀ b o', b ∉ [s₁.heap.objs.size] → (s₁.heap.push o).get? b = some o' → h'.get? b = some o') → ∀ b o', s₁.heap.get? b = some o' → h'.get? b = some o' :=
    fun h' hk b o' e => hk b o' (old_not_new e) (Heap.get?_push_of_some _ e)
  refine ⟨ItemKind.str.lift (fun _ => true), fun v r => ∃ a, ItemKind.str.is a v ∧ Carried r (d a), s₁.heap.objs.size, [s₁.heap.objs.size], [s₁.heap.objs.size], y.cps.size, SignAt y, St, rfl, W A hh, hsz, hst, ?_, ⟨?_, ?_⟩, ?_⟩
  · intro b hb
    rw [List.mem_singleton.mp hb]
    show _ < (s₁.heap.push o).objs.size
    rw [Heap.size_push]; exact Nat.lt_succ_self _
  · intro C i v s₃ m₃ E' hP _ _ _ _
    obtain ⟨c, u, _, rfl⟩ := hP
    rw [ItemKind.lift_is (K := ItemKind.str) (a := ⟨#[c]⟩) ⟨u, rfl⟩]
    exact wpAny_pure ⟨rfl, ⟨_, _, rfl, fun _ _ e => e⟩⟩
  · intro C i v s₃ m₃ E' hP _ hn hm _ _
    obtain ⟨c, u, _, rfl⟩ := hP
    exact wpAny_mono (elts C c u s₃ m₃ E' hn hm) (fun r s₄ h₄ => ⟨⟨_, ⟨u, rfl⟩, h₄.1⟩, h₄.2⟩) fun _ _ e => e
  · intro D h' tk ys vs hnew hlD hplD hlen hP hF hk
    have z := (areOf_signs hlen hP).paired (fun _ => true) d _ hF
    rw [List.filter_eq_self.mpr (fun _ _ => rfl)] at z
    refine fin D ys.toList h' tk (F.keeps (up h' hk)) (N.grown (up h' hk)) ?_ (by rw [Array.toArray_toList]; exact hlD) ⟨by rw [Array.toArray_toList]; exact hplD, fun p hp e => by rw [← e, Heap.get?_push_of_some _ (N p hp).1] at hnew; cases hnew⟩ z
    cases e : h₀.get? D with
    | none => rfl
    | some o' => rw [Heap.get?_push_of_some _ (F.keep _ _ e)] at hnew; cases hnew
end
end

section
noncomputable def spW (way : Int) (u : List Nat) : List Nat := if way = 0 then u ++ [32] else if way = 1 then 34 :: (u ++ [34, 10]) else (u.flatMap fun c => [92, c]) ++ [9]
theorem sp_two (a b c : Int) : Txt.join (Str.ofString "") ((signs (W3 a b c)).map fun a => Str.ofString "\\" ++ a) ++ Str.ofString "\t" = ⟨(spW 2 [dg a, dg b, dg c]).toArray⟩ := by
  rw [show Str.ofString "" = ⟨#[]⟩ by decide +kernel, show Str.ofString "\\" = ⟨#[92]⟩ by decide +kernel, show Str.ofString "\t" = ⟨#[9]⟩ by decide +kernel]
  rfl
theorem sp_zero (a b c : Int) : W3 a b c ++ Str.ofString " " = ⟨(spW 0 [dg a, dg b, dg c]).toArray⟩ := by
  rw [show Str.ofString " " = ⟨#[32]⟩ by decide +kernel]
  rfl
theorem sp_one (a b c : Int) : Str.ofString "\"" ++ W3 a b c ++ Str.ofString "\"\n" = ⟨(spW 1 [dg a, dg b, dg c]).toArray⟩ := by
  rw [show Str.ofString "\"" = ⟨#[34]⟩ by decide +kernel, show Str.ofString "\"\n" = ⟨#[34, 10]⟩ by decide +kernel]
  rfl
theorem spelled_t0 (w : World) (mean : ExcName → Option Value) (mg mb : Str → Option Value) (a b c : Int) (t u : Tok) (news : List (Addr × Obj)) :
   Con w mean mg mb 117 news [.str (W3 a b c) t, .int 0 u] 3 (fun news' v => news' = news ∧ ∃ t', v = .str ⟨(spW 0 [dg a, dg b, dg c]).toArray⟩ t') := by
  have hl := len_W3 a b c
  unfold Con; k_fill
  intro pr ls dp un gd cn cs a' ccd cl outer A₀ base h₀ L m s Q E B F X N T hk hd hu hret
  ((refine wpAny_call ?_; k_dflt ktr_enter; refine acut ?_; intro _))
  (repeat' (first | (k_unfold; (try dsimp only)) | (k_end; wrow_close) | ((with_reducible show wpAny _ _ (pyIter (Value.str _ _)) _ _ _); with_reducible (((with_reducible show wpAny _ _ (pyIter (Value.str _ _)) (CompPost _ _ _ _ _ _ _ _ _) _ _); refine' comp_signs (fun a => PyData.str (Str.ofString "\\" ++ a)) rfl ?F ?N ?z ?e ?f; (case F => k_asm); (case N => k_asm); (case z => rw [sizeLine_eq]; exact Nat.le_of_ble_eq_true rfl)))) | ((with_reducible show wpAny _ _ (execs (_ :: _) _) _ _ _); with_reducible ((refine execs_cut ?_; intro _ _))) | ((with_reducible show wpAny _ _ (callWith _ (Value.ref _) _ _ _) _ _ _); with_reducible ((k_here; k_dflt (first | (refine' callWith_K ?k1 ?k2 ?_; (case k1 => k_asm); (case k2 => k_is); k_whole) | (refine' callWith_K0 ?k1 ?k2 ?_; (case k1 => k_in); (case k2 => k_is); k_whole))))) | ((with_reducible show wpAny _ _ (binaryOp .Mult (Value.int _ _) (Value.float _ _)) _ _ _); with_reducible ((k_here; k_dflt (refine' mulif_safe ?k1 ?_; (case k1 => omega); k_whole)))) | ((with_reducible show wpAny _ _ (binaryOp .Mult (Value.float _ _) (Value.int _ _)) _ _ _); with_reducible ((k_here; k_dflt (refine' mulfi_safe ?k1 ?_; (case k1 => omega); k_whole)))) | ((with_reducible show wpAny _ _ (binaryOp .Mod (Value.float _ _) (Value.float _ _)) _ _ _); with_reducible ((k_here; k_dflt (refine' fmod_safe ?k1 ?k2 ?_; (case k1 => with_unfolding_all rfl); (case k2 => decide +kernel); k_whole)))) | ((with_reducible show wpAny _ _ (binaryOp .Div (Value.float _ _) (Value.float _ _)) _ _ _); with_reducible ((k_here; k_dflt (refine' fdiv_safe ?k1 ?k2 ?_; (case k1 => with_unfolding_all rfl); (case k2 => decide +kernel); k_whole)))) | ((with_reducible show wpAny _ _ (binaryOp .Div (Value.int _ _) (Value.int _ _)) _ _ _); with_reducible ((k_here; k_dflt (refine' div_safe ?k1 ?k2 ?k3 ?_; (case k1 => with_unfolding_all rfl); (case k2 => omega); (case k3 => omega); k_whole)))) | ((with_reducible show wpAny _ _ (call (Value.builtin "min") _) _ _ _); with_reducible ((k_here; (with_reducible show wpAny _ _ (call (Value.builtin _) [Value.int _ _, Value.int _ _, Value.int _ _]) _ _ _); k_dflt (refine' min3_N ?k1 ?k2 ?k3 ?_; (case k1 => with_unfolding_all rfl); (case k2 => k_asm); (case k3 => k_asm); k_whole); intro h' tk' tt' F' N'; (try k_sweep)))) | ((with_reducible show wpAny _ _ (call (Value.builtin "max") _) _ _ _); with_reducible ((k_here; (with_reducible show wpAny _ _ (call (Value.builtin _) [Value.int _ _, Value.int _ _, Value.int _ _]) _ _ _); k_dflt (refine' max3_N ?k1 ?k2 ?k3 ?_; (case k1 => with_unfolding_all rfl); (case k2 => k_asm); (case k3 => k_asm); k_whole); intro h' tk' tt' F' N'; (try k_sweep)))) | walk1 | dsimp only | (leave1; walk_say "STEP leave1"; try dsimp only)))
  rw [sp_zero a b c]
  refine hret _ _ _ _ (by k_asm) (by k_asm) ⟨rfl, _, rfl⟩
theorem spelled_t1 (w : World) (mean : ExcName → Option Value) (mg mb : Str → Option Value) (a b c : Int) (t u : Tok) (news : List (Addr × Obj)) :
   Con w mean mg mb 117 news [.str (W3 a b c) t, .int 1 u] 3 (fun news' v => news' = news ∧ ∃ t', v = .str ⟨(spW 1 [dg a, dg b, dg c]).toArray⟩ t') := by
  have hl := len_W3 a b c
  unfold Con; k_fill
  intro pr ls dp un gd cn cs a' ccd cl outer A₀ base h₀ L m s Q E B F X N T hk hd hu hret
  ((refine wpAny_call ?_; k_dflt ktr_enter; refine acut ?_; intro _))
  (repeat' (first | (k_unfold; (try dsimp only)) | (k_end; wrow_close) | ((with_reducible show wpAny _ _ (pyIter (Value.str _ _)) _ _ _); with_reducible (((with_reducible show wpAny _ _ (pyIter (Value.str _ _)) (CompPost _ _ _ _ _ _ _ _ _) _ _); refine' comp_signs (fun a => PyData.str (Str.ofString "\\" ++ a)) rfl ?F ?N ?z ?e ?f; (case F => k_asm); (case N => k_asm); (case z => rw [sizeLine_eq]; exact Nat.le_of_ble_eq_true rfl)))) | ((with_reducible show wpAny _ _ (execs (_ :: _) _) _ _ _); with_reducible ((refine execs_cut ?_; intro _ _))) | ((with_reducible show wpAny _ _ (callWith _ (Value.ref _) _ _ _) _ _ _); with_reducible ((k_here; k_dflt (first | (refine' callWith_K ?k1 ?k2 ?_; (case k1 => k_asm); (case k2 => k_is); k_whole) | (refine' callWith_K0 ?k1 ?k2 ?_; (case k1 => k_in); (case k2 => k_is); k_whole))))) | ((with_reducible show wpAny _ _ (binaryOp .Mult (Value.int _ _) (Value.float _ _)) _ _ _); with_reducible ((k_here; k_dflt (refine' mulif_safe ?k1 ?_; (case k1 => omega); k_whole)))) | ((with_reducible show wpAny _ _ (binaryOp .Mult (Value.float _ _) (Value.int _ _)) _ _ _); with_reducible ((k_here; k_dflt (refine' mulfi_safe ?k1 ?_; (case k1 => omega); k_whole)))) | ((with_reducible show wpAny _ _ (binaryOp .Mod (Value.float _ _) (Value.float _ _)) _ _ _); with_reducible ((k_here; k_dflt (refine' fmod_safe ?k1 ?k2 ?_; (case k1 => with_unfolding_all rfl); (case k2 => decide +kernel); k_whole)))) | ((with_reducible show wpAny _ _ (binaryOp .Div (Value.float _ _) (Value.float _ _)) _ _ _); with_reducible ((k_here; k_dflt (refine' fdiv_safe ?k1 ?k2 ?_; (case k1 => with_unfolding_all rfl); (case k2 => decide +kernel); k_whole)))) | ((with_reducible show wpAny _ _ (binaryOp .Div (Value.int _ _) (Value.int _ _)) _ _ _); with_reducible ((k_here; k_dflt (refine' div_safe ?k1 ?k2 ?k3 ?_; (case k1 => with_unfolding_all rfl); (case k2 => omega); (case k3 => omega); k_whole)))) | ((with_reducible show wpAny _ _ (call (Value.builtin "min") _) _ _ _); with_reducible ((k_here; (with_reducible show wpAny _ _ (call (Value.builtin _) [Value.int _ _, Value.int _ _, Value.int _ _]) _ _ _); k_dflt (refine' min3_N ?k1 ?k2 ?k3 ?_; (case k1 => with_unfolding_all rfl); (case k2 => k_asm); (case k3 => k_asm); k_whole); intro h' tk' tt' F' N'; (try k_sweep)))) | ((with_reducible show wpAny _ _ (call (Value.builtin "max") _) _ _ _); with_reducible ((k_here; (with_reducible show wpAny _ _ (call (Value.builtin _) [Value.int _ _, Value.int _ _, Value.int _ _]) _ _ _); k_dflt (refine' max3_N ?k1 ?k2 ?k3 ?_; (case k1 => with_unfolding_all rfl); (case k2 => k_asm); (case k3 => k_asm); k_whole); intro h' tk' tt' F' N'; (try k_sweep)))) | walk1 | dsimp only | (leave1; walk_say "STEP leave1"; try dsimp only)))
  rw [sp_one a b c]
  refine hret _ _ _ _ (by k_asm) (by k_asm) ⟨rfl, _, rfl⟩
theorem spelled_t2 (w : World) (mean : ExcName → Option Value) (mg mb : Str → Option Value) (a b c : Int) (t u : Tok) (news : List (Addr × Obj)) :
   Con w mean mg mb 117 news [.str (W3 a b c) t, .int 2 u] 3 (fun news' v => news' = news ∧ ∃ t', v = .str ⟨(spW 2 [dg a, dg b, dg c]).toArray⟩ t') := by
  unfold Con; k_fill
  intro pr ls dp un gd cn cs a' ccd cl outer A₀ base h₀ L m s Q E B F X N T hk hd hu hret
  ((refine wpAny_call ?_; k_dflt ktr_enter; refine acut ?_; intro _))
  (repeat' ((fail_if_success (with_reducible show ∀ _, _)); (fail_if_success (with_reducible show wpAny _ _ (call (Value.builtin "str.join") _) _ _ _)); first | (k_unfold; (try dsimp only)) | (k_end; wrow_close) | ((with_reducible show wpAny _ _ (pyIter (Value.str _ _)) _ _ _); with_reducible (((with_reducible show wpAny _ _ (pyIter (Value.str _ _)) (CompPost _ _ _ _ _ _ _ _ _) _ _); refine' comp_signs (fun a => PyData.str (Str.ofString "\\" ++ a)) rfl ?F ?N ?z ?e ?f; (case F => k_asm); (case N => k_asm); (case z => rw [sizeLine_eq]; exact Nat.le_of_ble_eq_true rfl)))) | ((with_reducible show wpAny _ _ (execs (_ :: _) _) _ _ _); with_reducible ((refine execs_cut ?_; intro _ _))) | ((with_reducible show wpAny _ _ (callWith _ (Value.ref _) _ _ _) _ _ _); with_reducible ((k_here; k_dflt (first | (refine' callWith_K ?k1 ?k2 ?_; (case k1 => k_asm); (case k2 => k_is); k_whole) | (refine' callWith_K0 ?k1 ?k2 ?_; (case k1 => k_in); (case k2 => k_is); k_whole))))) | ((with_reducible show wpAny _ _ (binaryOp .Mult (Value.int _ _) (Value.float _ _)) _ _ _); with_reducible ((k_here; k_dflt (refine' mulif_safe ?k1 ?_; (case k1 => omega); k_whole)))) | ((with_reducible show wpAny _ _ (binaryOp .Mult (Value.float _ _) (Value.int _ _)) _ _ _); with_reducible ((k_here; k_dflt (refine' mulfi_safe ?k1 ?_; (case k1 => omega); k_whole)))) | ((with_reducible show wpAny _ _ (binaryOp .Mod (Value.float _ _) (Value.float _ _)) _ _ _); with_reducible ((k_here; k_dflt (refine' fmod_safe ?k1 ?k2 ?_; (case k1 => with_unfolding_all rfl); (case k2 => decide +kernel); k_whole)))) | ((with_reducible show wpAny _ _ (binaryOp .Div (Value.float _ _) (Value.float _ _)) _ _ _); with_reducible ((k_here; k_dflt (refine' fdiv_safe ?k1 ?k2 ?_; (case k1 => with_unfolding_all rfl); (case k2 => decide +kernel); k_whole)))) | ((with_reducible show wpAny _ _ (binaryOp .Div (Value.int _ _) (Value.int _ _)) _ _ _); with_reducible ((k_here; k_dflt (refine' div_safe ?k1 ?k2 ?k3 ?_; (case k1 => with_unfolding_all rfl); (case k2 => omega); (case k3 => omega); k_whole)))) | ((with_reducible show wpAny _ _ (call (Value.builtin "min") _) _ _ _); with_reducible ((k_here; (with_reducible show wpAny _ _ (call (Value.builtin _) [Value.int _ _, Value.int _ _, Value.int _ _]) _ _ _); k_dflt (refine' min3_N ?k1 ?k2 ?k3 ?_; (case k1 => with_unfolding_all rfl); (case k2 => k_asm); (case k3 => k_asm); k_whole); intro h' tk' tt' F' N'; (try k_sweep)))) | ((with_reducible show wpAny _ _ (call (Value.builtin "max") _) _ _ _); with_reducible ((k_here; (with_reducible show wpAny _ _ (call (Value.builtin _) [Value.int _ _, Value.int _ _, Value.int _ _]) _ _ _); k_dflt (refine' max3_N ?k1 ?k2 ?k3 ?_; (case k1 => with_unfolding_all rfl); (case k2 => k_asm); (case k3 => k_asm); k_whole); intro h' tk' tt' F' N'; (try k_sweep)))) | walk1 | dsimp only | (leave1; walk_say "STEP leave1"; try dsimp only) | fail "no step"))
  case e =>
    intro C c' u' s₂ m₂ E' hn hm
    (repeat' ((fail_if_success (with_reducible show ∀ _, _)); (fail_if_success (with_reducible show wpAny _ _ (call (Value.builtin "str.join") _) _ _ _)); first | (k_unfold; (try dsimp only)) | (k_end; wrow_close) | ((with_reducible show wpAny _ _ (pyIter (Value.str _ _)) _ _ _); with_reducible (((with_reducible show wpAny _ _ (pyIter (Value.str _ _)) (CompPost _ _ _ _ _ _ _ _ _) _ _); refine' comp_signs (fun a => PyData.str (Str.ofString "\\" ++ a)) rfl ?F ?N ?z ?e ?f; (case F => k_asm); (case N => k_asm); (case z => rw [sizeLine_eq]; exact Nat.le_of_ble_eq_true rfl)))) | ((with_reducible show wpAny _ _ (execs (_ :: _) _) _ _ _); with_reducible ((refine execs_cut ?_; intro _ _))) | ((with_reducible show wpAny _ _ (callWith _ (Value.ref _) _ _ _) _ _ _); with_reducible ((k_here; k_dflt (first | (refine' callWith_K ?k1 ?k2 ?_; (case k1 => k_asm); (case k2 => k_is); k_whole) | (refine' callWith_K0 ?k1 ?k2 ?_; (case k1 => k_in); (case k2 => k_is); k_whole))))) | ((with_reducible show wpAny _ _ (binaryOp .Mult (Value.int _ _) (Value.float _ _)) _ _ _); with_reducible ((k_here; k_dflt (refine' mulif_safe ?k1 ?_; (case k1 => omega); k_whole)))) | ((with_reducible show wpAny _ _ (binaryOp .Mult (Value.float _ _) (Value.int _ _)) _ _ _); with_reducible ((k_here; k_dflt (refine' mulfi_safe ?k1 ?_; (case k1 => omega); k_whole)))) | ((with_reducible show wpAny _ _ (binaryOp .Mod (Value.float _ _) (Value.float _ _)) _ _ _); with_reducible ((k_here; k_dflt (refine' fmod_safe ?k1 ?k2 ?_; (case k1 => with_unfolding_all rfl); (case k2 => decide +kernel); k_whole)))) | ((with_reducible show wpAny _ _ (binaryOp .Div (Value.float _ _) (Value.float _ _)) _ _ _); with_reducible ((k_here; k_dflt (refine' fdiv_safe ?k1 ?k2 ?_; (case k1 => with_unfolding_all rfl); (case k2 => decide +kernel); k_whole)))) | ((with_reducible show wpAny _ _ (binaryOp .Div (Value.int _ _) (Value.int _ _)) _ _ _); with_reducible ((k_here; k_dflt (refine' div_safe ?k1 ?k2 ?k3 ?_; (case k1 => with_unfolding_all rfl); (case k2 => omega); (case k3 => omega); k_whole)))) | ((with_reducible show wpAny _ _ (call (Value.builtin "min") _) _ _ _); with_reducible ((k_here; (with_reducible show wpAny _ _ (call (Value.builtin _) [Value.int _ _, Value.int _ _, Value.int _ _]) _ _ _); k_dflt (refine' min3_N ?k1 ?k2 ?k3 ?_; (case k1 => with_unfolding_all rfl); (case k2 => k_asm); (case k3 => k_asm); k_whole); intro h' tk' tt' F' N'; (try k_sweep)))) | ((with_reducible show wpAny _ _ (call (Value.builtin "max") _) _ _ _); with_reducible ((k_here; (with_reducible show wpAny _ _ (call (Value.builtin _) [Value.int _ _, Value.int _ _, Value.int _ _]) _ _ _); k_dflt (refine' max3_N ?k1 ?k2 ?k3 ?_; (case k1 => with_unfolding_all rfl); (case k2 => k_asm); (case k3 => k_asm); k_whole); intro h' tk' tt' F' N'; (try k_sweep)))) | walk1 | dsimp only | (leave1; walk_say "STEP leave1"; try dsimp only) | fail "no step"))
    all_goals first | exact Carried.str _ _ | exact ⟨_, _, rfl, fun _ _ e => e⟩
  case f =>
    intro D ys h' tk' F1 N1 hD hl hp hc
    (repeat' ((fail_if_success (with_reducible show ∀ _, _)); (fail_if_success (with_reducible show wpAny _ _ (call (Value.builtin "str.join") _) _ _ _)); first | (k_unfold; (try dsimp only)) | (k_end; wrow_close) | ((with_reducible show wpAny _ _ (pyIter (Value.str _ _)) _ _ _); with_reducible (((with_reducible show wpAny _ _ (pyIter (Value.str _ _)) (CompPost _ _ _ _ _ _ _ _ _) _ _); refine' comp_signs (fun a => PyData.str (Str.ofString "\\" ++ a)) rfl ?F ?N ?z ?e ?f; (case F => k_asm); (case N => k_asm); (case z => rw [sizeLine_eq]; exact Nat.le_of_ble_eq_true rfl)))) | ((with_reducible show wpAny _ _ (execs (_ :: _) _) _ _ _); with_reducible ((refine execs_cut ?_; intro _ _))) | ((with_reducible show wpAny _ _ (callWith _ (Value.ref _) _ _ _) _ _ _); with_reducible ((k_here; k_dflt (first | (refine' callWith_K ?k1 ?k2 ?_; (case k1 => k_asm); (case k2 => k_is); k_whole) | (refine' callWith_K0 ?k1 ?k2 ?_; (case k1 => k_in); (case k2 => k_is); k_whole))))) | ((with_reducible show wpAny _ _ (binaryOp .Mult (Value.int _ _) (Value.float _ _)) _ _ _); with_reducible ((k_here; k_dflt (refine' mulif_safe ?k1 ?_; (case k1 => omega); k_whole)))) | ((with_reducible show wpAny _ _ (binaryOp .Mult (Value.float _ _) (Value.int _ _)) _ _ _); with_reducible ((k_here; k_dflt (refine' mulfi_safe ?k1 ?_; (case k1 => omega); k_whole)))) | ((with_reducible show wpAny _ _ (binaryOp .Mod (Value.float _ _) (Value.float _ _)) _ _ _); with_reducible ((k_here; k_dflt (refine' fmod_safe ?k1 ?k2 ?_; (case k1 => with_unfolding_all rfl); (case k2 => decide +kernel); k_whole)))) | ((with_reducible show wpAny _ _ (binaryOp .Div (Value.float _ _) (Value.float _ _)) _ _ _); with_reducible ((k_here; k_dflt (refine' fdiv_safe ?k1 ?k2 ?_; (case k1 => with_unfolding_all rfl); (case k2 => decide +kernel); k_whole)))) | ((with_reducible show wpAny _ _ (binaryOp .Div (Value.int _ _) (Value.int _ _)) _ _ _); with_reducible ((k_here; k_dflt (refine' div_safe ?k1 ?k2 ?k3 ?_; (case k1 => with_unfolding_all rfl); (case k2 => omega); (case k3 => omega); k_whole)))) | ((with_reducible show wpAny _ _ (call (Value.builtin "min") _) _ _ _); with_reducible ((k_here; (with_reducible show wpAny _ _ (call (Value.builtin _) [Value.int _ _, Value.int _ _, Value.int _ _]) _ _ _); k_dflt (refine' min3_N ?k1 ?k2 ?k3 ?_; (case k1 => with_unfolding_all rfl); (case k2 => k_asm); (case k3 => k_asm); k_whole); intro h' tk' tt' F' N'; (try k_sweep)))) | ((with_reducible show wpAny _ _ (call (Value.builtin "max") _) _ _ _); with_reducible ((k_here; (with_reducible show wpAny _ _ (call (Value.builtin _) [Value.int _ _, Value.int _ _, Value.int _ _]) _ _ _); k_dflt (refine' max3_N ?k1 ?k2 ?k3 ?_; (case k1 => with_unfolding_all rfl); (case k2 => k_asm); (case k3 => k_asm); k_whole); intro h' tk' tt' F' N'; (try k_sweep)))) | walk1 | dsimp only | (leave1; walk_say "STEP leave1"; try dsimp only) | fail "no step"))
    refine KT.join_B (g := fun a => Str.ofString "\\" ++ a) 2 hl hc ?_ ?_ ?_ ?_
    · intro a ha
      obtain ⟨n, _, rfl⟩ := List.mem_map.mp ha
      exact Nat.le_of_ble_eq_true rfl
    · exact Nat.le_of_ble_eq_true rfl
    · exact Nat.le_of_ble_eq_true rfl
    intro t' k'
    (repeat' ((fail_if_success (with_reducible show ∀ _, _)); (fail_if_success (with_reducible show wpAny _ _ (call (Value.builtin "str.join") _) _ _ _)); first | (k_unfold; (try dsimp only)) | (k_end; wrow_close) | ((with_reducible show wpAny _ _ (pyIter (Value.str _ _)) _ _ _); with_reducible (((with_reducible show wpAny _ _ (pyIter (Value.str _ _)) (CompPost _ _ _ _ _ _ _ _ _) _ _); refine' comp_signs (fun a => PyData.str (Str.ofString "\\" ++ a)) rfl ?F ?N ?z ?e ?f; (case F => k_asm); (case N => k_asm); (case z => rw [sizeLine_eq]; exact Nat.le_of_ble_eq_true rfl)))) | ((with_reducible show wpAny _ _ (execs (_ :: _) _) _ _ _); with_reducible ((refine execs_cut ?_; intro _ _))) | ((with_reducible show wpAny _ _ (callWith _ (Value.ref _) _ _ _) _ _ _); with_reducible ((k_here; k_dflt (first | (refine' callWith_K ?k1 ?k2 ?_; (case k1 => k_asm); (case k2 => k_is); k_whole) | (refine' callWith_K0 ?k1 ?k2 ?_; (case k1 => k_in); (case k2 => k_is); k_whole))))) | ((with_reducible show wpAny _ _ (binaryOp .Mult (Value.int _ _) (Value.float _ _)) _ _ _); with_reducible ((k_here; k_dflt (refine' mulif_safe ?k1 ?_; (case k1 => omega); k_whole)))) | ((with_reducible show wpAny _ _ (binaryOp .Mult (Value.float _ _) (Value.int _ _)) _ _ _); with_reducible ((k_here; k_dflt (refine' mulfi_safe ?k1 ?_; (case k1 => omega); k_whole)))) | ((with_reducible show wpAny _ _ (binaryOp .Mod (Value.float _ _) (Value.float _ _)) _ _ _); with_reducible ((k_here; k_dflt (refine' fmod_safe ?k1 ?k2 ?_; (case k1 => with_unfolding_all rfl); (case k2 => decide +kernel); k_whole)))) | ((with_reducible show wpAny _ _ (binaryOp .Div (Value.float _ _) (Value.float _ _)) _ _ _); with_reducible ((k_here; k_dflt (refine' fdiv_safe ?k1 ?k2 ?_; (case k1 => with_unfolding_all rfl); (case k2 => decide +kernel); k_whole)))) | ((with_reducible show wpAny _ _ (binaryOp .Div (Value.int _ _) (Value.int _ _)) _ _ _); with_reducible ((k_here; k_dflt (refine' div_safe ?k1 ?k2 ?k3 ?_; (case k1 => with_unfolding_all rfl); (case k2 => omega); (case k3 => omega); k_whole)))) | ((with_reducible show wpAny _ _ (call (Value.builtin "min") _) _ _ _); with_reducible ((k_here; (with_reducible show wpAny _ _ (call (Value.builtin _) [Value.int _ _, Value.int _ _, Value.int _ _]) _ _ _); k_dflt (refine' min3_N ?k1 ?k2 ?k3 ?_; (case k1 => with_unfolding_all rfl); (case k2 => k_asm); (case k3 => k_asm); k_whole); intro h' tk' tt' F' N'; (try k_sweep)))) | ((with_reducible show wpAny _ _ (call (Value.builtin "max") _) _ _ _); with_reducible ((k_here; (with_reducible show wpAny _ _ (call (Value.builtin _) [Value.int _ _, Value.int _ _, Value.int _ _]) _ _ _); k_dflt (refine' max3_N ?k1 ?k2 ?k3 ?_; (case k1 => with_unfolding_all rfl); (case k2 => k_asm); (case k3 => k_asm); k_whole); intro h' tk' tt' F' N'; (try k_sweep)))) | walk1 | dsimp only | (leave1; walk_say "STEP leave1"; try dsimp only) | fail "no step"))
    rw [sp_two a b c]
    refine hret _ _ _ _ (by k_asm) (drop1 (by k_asm)) ⟨rfl, _, rfl⟩
theorem spelled_con (w : World) (mean : ExcName → Option Value) (mg mb : Str → Option Value) (a b c way : Int) (t u : Tok) (news : List (Addr × Obj)) (hw : 0 ≤ way ∧ way < 3) :
   Con w mean mg mb 117 news [.str (W3 a b c) t, .int way u] 3 (fun news' v => news' = news ∧ ∃ t', v = .str ⟨(spW way [dg a, dg b, dg c]).toArray⟩ t') := by
  have : way = 0 ∨ way = 1 ∨ way = 2 := by omega
  rcases this with rfl | rfl | rfl
  · exact spelled_t0 w mean mg mb a b c t u news
  · exact spelled_t1 w mean mg mb a b c t u news
  · exact spelled_t2 w mean mg mb a b c t u news
end

section
noncomputable def IsLi (o : Obj) (l : Addr) (i : Nat) : Prop := o.cls = .type "list_iterator" ∧ o.data = .fields #[.ref l, .int (i : Int) 0]
section
variable {prog : Program} {w : World} {A : Around} {E : Value → Shared → Prop} {s : Shared} {h₀ : Heap} {L l it : Addr} {m : Str → Option Value} {news : List (Addr × Obj)} {its : Array Value} {n i : Nat} {o : Obj}
theorem iter_li {Q : Value → Shared → Prop} (F : Fr h₀ L s.heap m) (N : News h₀ L s.heap news) (hl : (l, listOf its n) ∈ news)
    (h : ∀ I h' o, IsLi o l 0 → Fr h₀ L h' m → News h₀ L h' ((I, o) :: news) → (∀ p ∈ news, p.1 < I) → Q (.ref I) { s with heap := h' }) : wpAny (model prog w) A (pyIter (.ref l)) Q E s :=
  wpAny_pyIter_list (PySem.IsL.isList (n := n) (N.get hl)) (h _ _ _ ⟨rfl, rfl⟩ (F.push _) (N.push F _) fun p hp => Heap.lt_size (N p hp).1)
theorem next_li {x : Value} {Q : Option Value → Shared → Prop} (F : Fr h₀ L s.heap m) (N : News h₀ L s.heap ((it, o) :: news)) (ho : IsLi o l i) (hne : ∀ p ∈ news, p.1 ≠ it) (hl : (l, listOf its n) ∈ news) (hx : its[i]? = some x)
    (h : ∀ h' o', IsLi o' l (i + 1) → Fr h₀ L h' m → News h₀ L h' ((it, o') :: news) → Q (some x) { s with heap := h' }) : wpAny (model prog w) A (pyNext (.ref it)) Q E s := by
  have z := N (it, o) (.head _)
  refine wpAny_pyNext_list_item (l := l) (i := i) (items := its) ⟨_, z.1, ho⟩ (PySem.IsL.isList (n := n) (N.get (.tail _ hl))) hx fun h' hi hs => ?_
  obtain ⟨o', ho', hc'⟩ := hi
  refine h h' o' hc' (F.change hs z.2.1 z.2.2) ?_
  intro p hp
  rcases List.mem_cons.mp hp with rfl | hp
  · exact ⟨ho', z.2⟩
  · exact ⟨(hs.2 _ (hne p hp)).trans (N p (.tail _ hp)).1, (N p (.tail _ hp)).2⟩
theorem next_li_end {Q : Option Value → Shared → Prop} (hh : A.handled = none) (F : Fr h₀ L s.heap m) (N : News h₀ L s.heap ((it, o) :: news)) (ho : IsLi o l i) (hne : ∀ p ∈ news, p.1 ≠ it) (hl : (l, listOf its n) ∈ news) (hx : its[i]? = none)
    (h : ∀ h', Fr h₀ L h' m → News h₀ L h' news → Q none { s with heap := h' }) : wpAny (model prog w) A (pyNext (.ref it)) Q E s := by
  have z := N (it, o) (.head _)
  refine wpAny_pyNext_list_end (l := l) (i := i) (items := its) hh ⟨_, z.1, ho⟩ (PySem.IsL.isList (n := n) (N.get (.tail _ hl))) hx fun h' hs => h h' ?_ ?_
  · exact LCg.fr_but F (fun b o hb e => hs b o (by simpa using hb) e) (Ne.symm z.2.1) z.2.2
  · intro p hp
    exact ⟨hs _ _ (hne p hp) (N p (.tail _ hp)).1, (N p (.tail _ hp)).2⟩
end
end

section
noncomputable def det (x y : Int × Int) : Int := x.1 * y.2 - x.2 * y.1
noncomputable def tw (x : Int × Int) : Int × Int := (-x.2, x.1 - x.2)
theorem det_tw (x y : Int × Int) : det (tw x) (tw y) = det x y := by unfold det tw; grind
theorem tw_tw (x : Int × Int) : tw (tw x) = (-x.1 - (tw x).1, -x.2 - (tw x).2) := by unfold tw; ext <;> simp <;> omega
theorem det_anti (x y : Int × Int) : det x y = -(det y x) := by unfold det; grind
theorem det_addL (a b c d : Int) (y : Int × Int) : det (a + c, b + d) y = det (a, b) y + det (c, d) y := by unfold det; grind
theorem det_negL (a b : Int) (y : Int × Int) : det (-a, -b) y = -(det (a, b) y) := by unfold det; grind
/-- what is asked of a number by all two-rowed minors -/
noncomputable def rows (P : List (Int × Int)) : List (Int × Int) := P ++ P.map tw
noncomputable def DvAll (d : Int) (P : List (Int × Int)) : Prop := ∀ x ∈ rows P, ∀ y ∈ rows P, d ∣ det x y
theorem mem_rowsL {P : List (Int × Int)} {x : Int × Int} (h : x ∈ P) : x ∈ rows P := List.mem_append.mpr (.inl h)
theorem mem_rowsR {P : List (Int × Int)} {x : Int × Int} (h : x ∈ P) : tw x ∈ rows P := List.mem_append.mpr (.inr (List.mem_map.mpr ⟨x, h, rfl⟩))
/-- det (w x) r = - det x r - det x (w r) -/
theorem det_om (x r : Int × Int) : det (tw x) r = -(det x r) - det x (tw r) := by unfold det tw; grind
theorem det_om2 (x r : Int × Int) : det (tw x) (tw r) = det x r := det_tw x r
theorem dvd_neg' {d a : Int} (h : d ∣ a) : d ∣ -a := Int.dvd_neg.mpr h
noncomputable def SD (d : Int) (P : List (Int × Int)) (a b : Int) : Prop := ∀ x ∈ P, d ∣ det (a, b) x ∧ d ∣ det (a, b) (tw x)
theorem SD.idl (d : Int) (P : List (Int × Int)) : Idl (SD d P) where
  zero := fun x _ => by constructor <;> (unfold det; simp)
  add := fun {a b c e} h h' x hx => by
    have q := h x hx
    have q' := h' x hx
    rw [det_addL, det_addL]
    exact ⟨Int.dvd_add q.1 q'.1, Int.dvd_add q.2 q'.2⟩
  neg := fun {a b} h x hx => by
    have q := h x hx
    rw [det_negL, det_negL]
    exact ⟨dvd_neg' q.1, dvd_neg' q.2⟩
  om := fun {a b} h x hx => by
    have q := h x hx
    have e1 := det_om (a, b) x
    have e2 := det_om2 (a, b) x
    rw [show tw (a, b) = (-b, a - b) from rfl] at e1 e2
    rw [e1, e2]
    exact ⟨Int.dvd_sub (dvd_neg' q.1) q.2, q.1⟩
noncomputable def TD (d : Int) (g : Int × Int) (a b : Int) : Prop := d ∣ det g (a, b) ∧ d ∣ det g (tw (a, b))
theorem TD.idl (d : Int) (g : Int × Int) : Idl (TD d g) where
  zero := by constructor <;> simp [det, tw]
  add := fun {a b c e} h h' => by
    have e1 : det g (a + c, b + e) = det g (a, b) + det g (c, e) := by unfold det; grind
    have e2 : det g (tw (a + c, b + e)) = det g (tw (a, b)) + det g (tw (c, e)) := by unfold det tw; grind
    unfold TD
    rw [e1, e2]
    exact ⟨Int.dvd_add h.1 h'.1, Int.dvd_add h.2 h'.2⟩
  neg := fun {a b} h => by
    have e1 : det g (-a, -b) = -(det g (a, b)) := by unfold det; grind
    have e2 : det g (tw (-a, -b)) = -(det g (tw (a, b))) := by unfold det tw; grind
    unfold TD
    rw [e1, e2]
    exact ⟨dvd_neg' h.1, dvd_neg' h.2⟩
  om := fun {a b} h => by
    have e1 : det g (-b, a - b) = det g (tw (a, b)) := rfl
    have e2 : det g (tw (-b, a - b)) = -(det g (a, b)) - det g (tw (a, b)) := by unfold det tw; grind
    unfold TD
    rw [e1, e2]
    exact ⟨h.2, Int.dvd_sub (dvd_neg' h.1) h.2⟩
theorem det_self (g h : Int) : det (g, h) (tw (g, h)) = nrm g h := by unfold det tw nrm; grind
theorem one_mem {S : Int → Int → Prop} {g h : Int} : (∀ x ∈ [(g, h)], S x.1 x.2) ↔ S g h := by simp
theorem minors_low {d g h : Int} {P : List (Int × Int)} (hS : Same [(g, h)] P) (H : DvAll d P) : d ∣ nrm g h := by
  have s1 : SD d P g h := by
    refine one_mem.mp ((hS _ (SD.idl d P)).mpr ?_)
    exact fun y hy x hx => ⟨H _ (mem_rowsL hy) _ (mem_rowsL hx), H _ (mem_rowsL hy) _ (mem_rowsR hx)⟩
  have s2 : TD d (g, h) g h := by
    refine one_mem.mp ((hS _ (TD.idl d (g, h))).mpr ?_)
    exact fun y hy => s1 y hy
  rw [← det_self]; exact s2.2
theorem minors_up {g h : Int} {P : List (Int × Int)} (hS : Same [(g, h)] P) : DvAll (nrm g h) P := by
  have q1 : ∀ x ∈ P, Mul g h x.1 x.2 := (hS _ (Mul.idl g h)).mp (one_mem.mpr (Mul.self g h))
  have q2 : ∀ x ∈ rows P, Mul g h x.1 x.2 := by
    intro x hx
    rcases List.mem_append.mp hx with hx | hx
    · exact q1 x hx
    · obtain ⟨y, hy, rfl⟩ := List.mem_map.mp hx
      exact (Mul.idl g h).om (q1 y hy)
  intro x hx y hy
  obtain ⟨c, d, e1, e2⟩ := q2 x hx
  obtain ⟨c', d', e1', e2'⟩ := q2 y hy
  refine ⟨c * d' - d * c', ?_⟩
  unfold det nrm
  rw [e1, e2, e1', e2']
  grind
noncomputable def cgl : Int → List Int → Int
  | t, [] => t
  | t, x :: r => cgl (Int.gcd t x) r
theorem cgl_nonneg : ∀ {M : List Int} {t : Int}, 0 ≤ t → 0 ≤ cgl t M
  | [], _, h => h
  | x :: r, t, _ => cgl_nonneg (M := r) (t := Int.gcd t x) (Int.natCast_nonneg _)
theorem cgl_dvd : ∀ {M : List Int} {t : Int}, cgl t M ∣ t ∧ ∀ x ∈ M, cgl t M ∣ x
  | [], t => ⟨Int.dvd_refl t, fun x hx => by cases hx⟩
  | y :: r, t => by
    have q := @cgl_dvd r (Int.gcd t y)
    refine ⟨Int.dvd_trans q.1 (Int.gcd_dvd_left t y), fun x hx => ?_⟩
    rcases List.mem_cons.mp hx with rfl | hx
    · exact Int.dvd_trans q.1 (Int.gcd_dvd_right t _)
    · exact q.2 x hx
theorem dvd_cgl {d : Int} : ∀ {M : List Int} {t : Int}, d ∣ t → (∀ x ∈ M, d ∣ x) → d ∣ cgl t M
  | [], _, h, _ => h
  | y :: r, t, h, hM => dvd_cgl (M := r) (t := Int.gcd t y) (Int.dvd_coe_gcd h (hM y (.head _))) fun x hx => hM x (.tail _ hx)
noncomputable def pairsOf (R : List (Int × Int)) : List Int := (List.range R.length).flatMap fun i => (List.range i).map fun k => det (R.getD i (0, 0)) (R.getD k (0, 0))
theorem pairs_all {d : Int} {R : List (Int × Int)} : (∀ x ∈ pairsOf R, d ∣ x) ↔ ∀ x ∈ R, ∀ y ∈ R, d ∣ det x y := by
  constructor
  · intro H
    have key : ∀ i k : Nat, k < i → i < R.length → d ∣ det (R.getD i (0, 0)) (R.getD k (0, 0)) := fun i k h1 h2 =>
      H _ (List.mem_flatMap.mpr ⟨i, List.mem_range.mpr h2, List.mem_map.mpr ⟨k, List.mem_range.mpr h1, rfl⟩⟩)
    intro x hx y hy
    obtain ⟨i, hi, rfl⟩ := List.getElem_of_mem hx
    obtain ⟨k, hk, rfl⟩ := List.getElem_of_mem hy
    rcases Nat.lt_trichotomy i k with h | h | h
    · have := key k i h hk
      rw [det_anti]
      simp only [List.getD_eq_getElem?_getD, List.getElem?_eq_getElem hi, List.getElem?_eq_getElem hk, Option.getD_some] at this
      exact dvd_neg' this
    · subst h
      rw [show det R[i] R[i] = 0 by unfold det; grind]; exact Int.dvd_zero d
    · have := key i k h hi
      simp only [List.getD_eq_getElem?_getD, List.getElem?_eq_getElem hi, List.getElem?_eq_getElem hk, Option.getD_some] at this
      exact this
  · intro H x hx
    obtain ⟨i, hi, hx⟩ := List.mem_flatMap.mp hx
    obtain ⟨k, hk, rfl⟩ := List.mem_map.mp hx
    have hi := List.mem_range.mp hi
    have hk := List.mem_range.mp hk
    have hk' : k < R.length := by omega
    simp only [List.getD_eq_getElem?_getD, List.getElem?_eq_getElem hi, List.getElem?_eq_getElem hk', Option.getD_some]
    exact H _ (List.getElem_mem _) _ (List.getElem_mem _)
theorem nrm_nonneg (g h : Int) : 0 ≤ nrm g h := by
  have e : 4 * nrm g h = (2 * g - h) * (2 * g - h) + 3 * (h * h) := by unfold nrm; grind
  have h1 : 0 ≤ (2 * g - h) * (2 * g - h) := by
    rcases Int.le_total 0 (2 * g - h) with q | q
    · exact Int.mul_nonneg q q
    · have := Int.mul_nonneg (Int.neg_nonneg.mpr q) (Int.neg_nonneg.mpr q)
      rwa [Int.neg_mul_neg] at this
  have h2 : 0 ≤ h * h := by
    rcases Int.le_total 0 h with q | q
    · exact Int.mul_nonneg q q
    · have := Int.mul_nonneg (Int.neg_nonneg.mpr q) (Int.neg_nonneg.mpr q)
      rwa [Int.neg_mul_neg] at this
  omega
theorem measure_is {g h : Int} {P : List (Int × Int)} (hS : Same [(g, h)] P) : cgl 0 (pairsOf (rows P)) = nrm g h := by
  have a : cgl 0 (pairsOf (rows P)) ∣ nrm g h := minors_low hS (pairs_all.mp cgl_dvd.2)
  have b : nrm g h ∣ cgl 0 (pairsOf (rows P)) := dvd_cgl (Int.dvd_zero _) (pairs_all.mpr (minors_up hS))
  exact Int.dvd_antisymm (cgl_nonneg (Int.le_refl _)) (nrm_nonneg g h) a b
theorem parts_is {g h : Int} {P : List (Int × Int)} (hS : Same [(g, h)] P) : ∀ x ∈ P, nrm g h ∣ tbA x.1 x.2 g h ∧ nrm g h ∣ tbB x.1 x.2 g h :=
  fun x hx => Mul.turn ((hS _ (Mul.idl g h)).mp (one_mem.mpr (Mul.self g h)) x hx)
end

section
local macro_rules | `(tactic| walk_at "mine pad") => `(tactic| skip)
noncomputable def intsA (ns : List (Int × Tok)) : Array Value := (ns.map fun x => Value.int x.1 x.2).toArray
theorem gcd_abs (t x : Int) : Int.gcd t (if x < 0 then -x else x) = Int.gcd t x := by
  split
  · exact Int.gcd_neg
  · rfl
theorem gcd_step {a b : Int} (ha : 0 ≤ a) (hb : 0 ≤ b) : Int.gcd b (a % b) = Int.gcd a b := by
  obtain ⟨m, rfl⟩ := Int.eq_ofNat_of_zero_le ha
  obtain ⟨n, rfl⟩ := Int.eq_ofNat_of_zero_le hb
  rw [← Int.natCast_emod]
  show Nat.gcd n (m % n) = Nat.gcd m n
  rw [Nat.gcd_comm m n, Nat.gcd_comm n (m % n), ← Nat.gcd_rec]
theorem common_con (w : World) (mean : ExcName → Option Value) (mg mb : Str → Option Value) (l : Addr) (ns : List (Int × Tok)) (e : Nat) (news : List (Addr × Obj))
   (hl : (l, listOf (intsA ns) e) ∈ news) :
   Con w mean mg mb 169 news [.ref l] 3
     (fun news' v => news' = news ∧ ∃ t, v = .int (cgl 0 (ns.map Prod.fst)) t) := by
  unfold Con; k_fill
  intro pr ls dp un gd cn cs a ccd cl outer A₀ base h₀ L m s Q E B F X N T hk hd hu hret
  ((refine wpAny_call ?_; k_dflt ktr_enter; refine acut ?_; intro _))
  (repeat' ((fail_if_success (with_reducible show wpAny _ _ (exec (Stmt.While _ _ _ _) _) _ _ _)); (fail_if_success (with_reducible show wpAny _ _ (exec (Stmt.For _ _ _ _ _) _) _ _ _)); (fail_if_success (with_reducible show codeAny _ _ (Code.forLoop _ _ _ _ _) _ _)); first | (k_unfold; (try dsimp only)) | (k_end; wrow_close) | ((with_reducible show wpAny _ _ (pyIter (Value.ref _)) _ _ _); with_reducible ((k_here; k_dflt (refine' iter_li ?k1 ?k2 ?k3 ?_; (case k1 => k_asm); (case k2 => k_asm); (case k3 => k_mem)); intro I' h' o' hi' F' N' l1; (try k_lt l1)))) | ((with_reducible show wpAny _ _ (execs (_ :: _) _) _ _ _); with_reducible ((refine execs_cut ?_; intro _ _))) | ((with_reducible show wpAny _ _ (callWith _ (Value.ref _) _ _ _) _ _ _); with_reducible ((k_here; k_dflt (first | (refine' callWith_K ?k1 ?k2 ?_; (case k1 => k_asm); (case k2 => k_is); k_whole) | (refine' callWith_K0 ?k1 ?k2 ?_; (case k1 => k_in); (case k2 => k_is); k_whole))))) | ((with_reducible show wpAny _ _ (binaryOp .Mult (Value.int _ _) (Value.float _ _)) _ _ _); with_reducible ((k_here; k_dflt (refine' mulif_safe ?k1 ?_; (case k1 => omega); k_whole)))) | ((with_reducible show wpAny _ _ (binaryOp .Mult (Value.float _ _) (Value.int _ _)) _ _ _); with_reducible ((k_here; k_dflt (refine' mulfi_safe ?k1 ?_; (case k1 => omega); k_whole)))) | ((with_reducible show wpAny _ _ (binaryOp .Mod (Value.float _ _) (Value.float _ _)) _ _ _); with_reducible ((k_here; k_dflt (refine' fmod_safe ?k1 ?k2 ?_; (case k1 => with_unfolding_all rfl); (case k2 => decide +kernel); k_whole)))) | ((with_reducible show wpAny _ _ (binaryOp .Div (Value.float _ _) (Value.float _ _)) _ _ _); with_reducible ((k_here; k_dflt (refine' fdiv_safe ?k1 ?k2 ?_; (case k1 => with_unfolding_all rfl); (case k2 => decide +kernel); k_whole)))) | ((with_reducible show wpAny _ _ (binaryOp .Div (Value.int _ _) (Value.int _ _)) _ _ _); with_reducible ((k_here; k_dflt (refine' div_safe ?k1 ?k2 ?k3 ?_; (case k1 => with_unfolding_all rfl); (case k2 => omega); (case k3 => omega); k_whole)))) | ((with_reducible show wpAny _ _ (call (Value.builtin "min") _) _ _ _); with_reducible ((k_here; (with_reducible show wpAny _ _ (call (Value.builtin _) [Value.int _ _, Value.int _ _, Value.int _ _]) _ _ _); k_dflt (refine' min3_N ?k1 ?k2 ?k3 ?_; (case k1 => with_unfolding_all rfl); (case k2 => k_asm); (case k3 => k_asm); k_whole); intro h' tk' tt' F' N'; (try k_sweep)))) | ((with_reducible show wpAny _ _ (call (Value.builtin "max") _) _ _ _); with_reducible ((k_here; (with_reducible show wpAny _ _ (call (Value.builtin _) [Value.int _ _, Value.int _ _, Value.int _ _]) _ _ _); k_dflt (refine' max3_N ?k1 ?k2 ?k3 ?_; (case k1 => with_unfolding_all rfl); (case k2 => k_asm); (case k3 => k_asm); k_whole); intro h' tk' tt' F' N'; (try k_sweep)))) | walk1 | dsimp only | (leave1; walk_say "STEP leave1"; try dsimp only) | fail "no step"))
  refine wpAny_For ?_
  (repeat' ((fail_if_success (with_reducible show wpAny _ _ (exec (Stmt.While _ _ _ _) _) _ _ _)); (fail_if_success (with_reducible show wpAny _ _ (exec (Stmt.For _ _ _ _ _) _) _ _ _)); (fail_if_success (with_reducible show codeAny _ _ (Code.forLoop _ _ _ _ _) _ _)); first | (k_unfold; (try dsimp only)) | (k_end; wrow_close) | ((with_reducible show wpAny _ _ (pyIter (Value.ref _)) _ _ _); with_reducible ((k_here; k_dflt (refine' iter_li ?k1 ?k2 ?k3 ?_; (case k1 => k_asm); (case k2 => k_asm); (case k3 => k_mem)); intro I' h' o' hi' F' N' l1; (try k_lt l1)))) | ((with_reducible show wpAny _ _ (execs (_ :: _) _) _ _ _); with_reducible ((refine execs_cut ?_; intro _ _))) | ((with_reducible show wpAny _ _ (callWith _ (Value.ref _) _ _ _) _ _ _); with_reducible ((k_here; k_dflt (first | (refine' callWith_K ?k1 ?k2 ?_; (case k1 => k_asm); (case k2 => k_is); k_whole) | (refine' callWith_K0 ?k1 ?k2 ?_; (case k1 => k_in); (case k2 => k_is); k_whole))))) | ((with_reducible show wpAny _ _ (binaryOp .Mult (Value.int _ _) (Value.float _ _)) _ _ _); with_reducible ((k_here; k_dflt (refine' mulif_safe ?k1 ?_; (case k1 => omega); k_whole)))) | ((with_reducible show wpAny _ _ (binaryOp .Mult (Value.float _ _) (Value.int _ _)) _ _ _); with_reducible ((k_here; k_dflt (refine' mulfi_safe ?k1 ?_; (case k1 => omega); k_whole)))) | ((with_reducible show wpAny _ _ (binaryOp .Mod (Value.float _ _) (Value.float _ _)) _ _ _); with_reducible ((k_here; k_dflt (refine' fmod_safe ?k1 ?k2 ?_; (case k1 => with_unfolding_all rfl); (case k2 => decide +kernel); k_whole)))) | ((with_reducible show wpAny _ _ (binaryOp .Div (Value.float _ _) (Value.float _ _)) _ _ _); with_reducible ((k_here; k_dflt (refine' fdiv_safe ?k1 ?k2 ?_; (case k1 => with_unfolding_all rfl); (case k2 => decide +kernel); k_whole)))) | ((with_reducible show wpAny _ _ (binaryOp .Div (Value.int _ _) (Value.int _ _)) _ _ _); with_reducible ((k_here; k_dflt (refine' div_safe ?k1 ?k2 ?k3 ?_; (case k1 => with_unfolding_all rfl); (case k2 => omega); (case k3 => omega); k_whole)))) | ((with_reducible show wpAny _ _ (call (Value.builtin "min") _) _ _ _); with_reducible ((k_here; (with_reducible show wpAny _ _ (call (Value.builtin _) [Value.int _ _, Value.int _ _, Value.int _ _]) _ _ _); k_dflt (refine' min3_N ?k1 ?k2 ?k3 ?_; (case k1 => with_unfolding_all rfl); (case k2 => k_asm); (case k3 => k_asm); k_whole); intro h' tk' tt' F' N'; (try k_sweep)))) | ((with_reducible show wpAny _ _ (call (Value.builtin "max") _) _ _ _); with_reducible ((k_here; (with_reducible show wpAny _ _ (call (Value.builtin _) [Value.int _ _, Value.int _ _, Value.int _ _]) _ _ _); k_dflt (refine' max3_N ?k1 ?k2 ?k3 ?_; (case k1 => with_unfolding_all rfl); (case k2 => k_asm); (case k3 => k_asm); k_whole); intro h' tk' tt' F' N'; (try k_sweep)))) | walk1 | dsimp only | (leave1; walk_say "STEP leave1"; try dsimp only) | fail "no step"))
  obtain ⟨I9, hI9⟩ : ∃ I9, I9 = I' := ⟨_, rfl⟩
  subst hI9
  obtain ⟨o9, ho9⟩ : ∃ o9, o9 = o' := ⟨_, rfl⟩
  subst ho9
  have hi9 := hi'
  have F1 := F'
  have N1 := N'
  clear F' N'
  have hne : ∀ p ∈ news, p.1 ≠ I9 := fun p hp => Nat.ne_of_lt (l1 p hp)
  refine for_own (fun n m1 news1 => ∃ (m' : Str → Option Value) (i : Nat) (o : Obj) (tt : Int) (t3 : Tok), m1 = (fun y => if y = Str.ofString "total" then some (.int tt t3) else m' y) ∧
      news1 = (I9, o) :: news ∧ IsLi o l i ∧ i ≤ ns.length ∧ n = ns.length - i ∧ 0 ≤ tt ∧ cgl tt ((ns.map Prod.fst).drop i) = cgl 0 (ns.map Prod.fst))
    F1 N1 (n₀ := ns.length) ⟨_, 0, _, _, _, pins1 rfl, rfl, hi9, Nat.zero_le _, rfl, Int.le_refl _, rfl⟩ ?_ (by passes_own) (by intro _; rfl)
  clear F1 N1
  intro n m1 news1 h1 tk1 F2 N2 J W9
  obtain ⟨m', i, o, tt, t3, rfl, rfl, hio, hi, rfl, htt, hg⟩ := J
  by_cases hlt : i < ns.length
  · have hx : (intsA ns)[i]? = some (.int (ns[i]).1 (ns[i]).2) := by simp [intsA, hlt]
    refine next_li F2 N2 hio hne hl hx ?_
    intro h3 o3 hio3 F3 N3
    clear F2 N2
    dsimp only
    (repeat' ((fail_if_success (with_reducible show wpAny _ _ (exec (Stmt.While _ _ _ _) _) _ _ _)); (fail_if_success (with_reducible show wpAny _ _ (exec (Stmt.For _ _ _ _ _) _) _ _ _)); (fail_if_success (with_reducible show codeAny _ _ (Code.forLoop _ _ _ _ _) _ _)); first | (k_unfold; (try dsimp only)) | (k_end; wrow_close) | ((with_reducible show wpAny _ _ (pyIter (Value.ref _)) _ _ _); with_reducible ((k_here; k_dflt (refine' iter_li ?k1 ?k2 ?k3 ?_; (case k1 => k_asm); (case k2 => k_asm); (case k3 => k_mem)); intro I' h' o' hi' F' N' l1; (try k_lt l1)))) | ((with_reducible show wpAny _ _ (execs (_ :: _) _) _ _ _); with_reducible ((refine execs_cut ?_; intro _ _))) | ((with_reducible show wpAny _ _ (callWith _ (Value.ref _) _ _ _) _ _ _); with_reducible ((k_here; k_dflt (first | (refine' callWith_K ?k1 ?k2 ?_; (case k1 => k_asm); (case k2 => k_is); k_whole) | (refine' callWith_K0 ?k1 ?k2 ?_; (case k1 => k_in); (case k2 => k_is); k_whole))))) | ((with_reducible show wpAny _ _ (binaryOp .Mult (Value.int _ _) (Value.float _ _)) _ _ _); with_reducible ((k_here; k_dflt (refine' mulif_safe ?k1 ?_; (case k1 => omega); k_whole)))) | ((with_reducible show wpAny _ _ (binaryOp .Mult (Value.float _ _) (Value.int _ _)) _ _ _); with_reducible ((k_here; k_dflt (refine' mulfi_safe ?k1 ?_; (case k1 => omega); k_whole)))) | ((with_reducible show wpAny _ _ (binaryOp .Mod (Value.float _ _) (Value.float _ _)) _ _ _); with_reducible ((k_here; k_dflt (refine' fmod_safe ?k1 ?k2 ?_; (case k1 => with_unfolding_all rfl); (case k2 => decide +kernel); k_whole)))) | ((with_reducible show wpAny _ _ (binaryOp .Div (Value.float _ _) (Value.float _ _)) _ _ _); with_reducible ((k_here; k_dflt (refine' fdiv_safe ?k1 ?k2 ?_; (case k1 => with_unfolding_all rfl); (case k2 => decide +kernel); k_whole)))) | ((with_reducible show wpAny _ _ (binaryOp .Div (Value.int _ _) (Value.int _ _)) _ _ _); with_reducible ((k_here; k_dflt (refine' div_safe ?k1 ?k2 ?k3 ?_; (case k1 => with_unfolding_all rfl); (case k2 => omega); (case k3 => omega); k_whole)))) | ((with_reducible show wpAny _ _ (call (Value.builtin "min") _) _ _ _); with_reducible ((k_here; (with_reducible show wpAny _ _ (call (Value.builtin _) [Value.int _ _, Value.int _ _, Value.int _ _]) _ _ _); k_dflt (refine' min3_N ?k1 ?k2 ?k3 ?_; (case k1 => with_unfolding_all rfl); (case k2 => k_asm); (case k3 => k_asm); k_whole); intro h' tk' tt' F' N'; (try k_sweep)))) | ((with_reducible show wpAny _ _ (call (Value.builtin "max") _) _ _ _); with_reducible ((k_here; (with_reducible show wpAny _ _ (call (Value.builtin _) [Value.int _ _, Value.int _ _, Value.int _ _]) _ _ _); k_dflt (refine' max3_N ?k1 ?k2 ?k3 ?_; (case k1 => with_unfolding_all rfl); (case k2 => k_asm); (case k3 => k_asm); k_whole); intro h' tk' tt' F' N'; (try k_sweep)))) | walk1 | dsimp only | (leave1; walk_say "STEP leave1"; try dsimp only) | fail "no step"))
    rename Fr _ _ _ _ => F4
    rename News _ _ _ _ => N4
    refine While_inv2L (fun k m1 news1 => ∃ (m' : Str → Option Value) (a b : Int) (t3 t4 : Tok), m1 = (fun y => if y = Str.ofString "total" then some (.int a t3) else if y = Str.ofString "left" then some (.int b t4) else m' y) ∧
        news1 = (I9, o3) :: news ∧ 0 ≤ a ∧ 0 ≤ b ∧ (Int.gcd a b : Int) = Int.gcd tt (ns[i]).1 ∧ k = b.toNat)
      F4 N4 ⟨_, _, _, _, _, pins2 rfl rfl, rfl, htt, by split <;> omega, by rw [gcd_abs], rfl⟩ ?_
    clear F4 N4
    intro k m4 news4 h4 tk4 F5 N5 J W9
    obtain ⟨m5, a5, b5, t5, t6, rfl, rfl, ha5, hb5, hg5, rfl⟩ := J
    (repeat' ((fail_if_success (with_reducible show wpAny _ _ (exec (Stmt.While _ _ _ _) _) _ _ _)); (fail_if_success (with_reducible show wpAny _ _ (exec (Stmt.For _ _ _ _ _) _) _ _ _)); (fail_if_success (with_reducible show codeAny _ _ (Code.forLoop _ _ _ _ _) _ _)); first | (k_unfold; (try dsimp only)) | (k_end; wrow_close) | ((with_reducible show wpAny _ _ (pyIter (Value.ref _)) _ _ _); with_reducible ((k_here; k_dflt (refine' iter_li ?k1 ?k2 ?k3 ?_; (case k1 => k_asm); (case k2 => k_asm); (case k3 => k_mem)); intro I' h' o' hi' F' N' l1; (try k_lt l1)))) | ((with_reducible show wpAny _ _ (execs (_ :: _) _) _ _ _); with_reducible ((refine execs_cut ?_; intro _ _))) | ((with_reducible show wpAny _ _ (callWith _ (Value.ref _) _ _ _) _ _ _); with_reducible ((k_here; k_dflt (first | (refine' callWith_K ?k1 ?k2 ?_; (case k1 => k_asm); (case k2 => k_is); k_whole) | (refine' callWith_K0 ?k1 ?k2 ?_; (case k1 => k_in); (case k2 => k_is); k_whole))))) | ((with_reducible show wpAny _ _ (binaryOp .Mult (Value.int _ _) (Value.float _ _)) _ _ _); with_reducible ((k_here; k_dflt (refine' mulif_safe ?k1 ?_; (case k1 => omega); k_whole)))) | ((with_reducible show wpAny _ _ (binaryOp .Mult (Value.float _ _) (Value.int _ _)) _ _ _); with_reducible ((k_here; k_dflt (refine' mulfi_safe ?k1 ?_; (case k1 => omega); k_whole)))) | ((with_reducible show wpAny _ _ (binaryOp .Mod (Value.float _ _) (Value.float _ _)) _ _ _); with_reducible ((k_here; k_dflt (refine' fmod_safe ?k1 ?k2 ?_; (case k1 => with_unfolding_all rfl); (case k2 => decide +kernel); k_whole)))) | ((with_reducible show wpAny _ _ (binaryOp .Div (Value.float _ _) (Value.float _ _)) _ _ _); with_reducible ((k_here; k_dflt (refine' fdiv_safe ?k1 ?k2 ?_; (case k1 => with_unfolding_all rfl); (case k2 => decide +kernel); k_whole)))) | ((with_reducible show wpAny _ _ (binaryOp .Div (Value.int _ _) (Value.int _ _)) _ _ _); with_reducible ((k_here; k_dflt (refine' div_safe ?k1 ?k2 ?k3 ?_; (case k1 => with_unfolding_all rfl); (case k2 => omega); (case k3 => omega); k_whole)))) | ((with_reducible show wpAny _ _ (call (Value.builtin "min") _) _ _ _); with_reducible ((k_here; (with_reducible show wpAny _ _ (call (Value.builtin _) [Value.int _ _, Value.int _ _, Value.int _ _]) _ _ _); k_dflt (refine' min3_N ?k1 ?k2 ?k3 ?_; (case k1 => with_unfolding_all rfl); (case k2 => k_asm); (case k3 => k_asm); k_whole); intro h' tk' tt' F' N'; (try k_sweep)))) | ((with_reducible show wpAny _ _ (call (Value.builtin "max") _) _ _ _); with_reducible ((k_here; (with_reducible show wpAny _ _ (call (Value.builtin _) [Value.int _ _, Value.int _ _, Value.int _ _]) _ _ _); k_dflt (refine' max3_N ?k1 ?k2 ?k3 ?_; (case k1 => with_unfolding_all rfl); (case k2 => k_asm); (case k3 => k_asm); k_whole); intro h' tk' tt' F' N'; (try k_sweep)))) | walk1 | dsimp only | (leave1; walk_say "STEP leave1"; try dsimp only) | fail "no step"))
    · rename b5 ≠ 0 => hb0
      rename Fr _ _ _ _ => F6
      rename News _ _ _ _ => N6
      have e1 : a5.fmod b5 = a5 % b5 := Int.fmod_eq_emod_of_nonneg _ hb5
      have e2 := Int.emod_nonneg a5 hb0
      have e3 := Int.emod_lt_of_pos a5 (show 0 < b5 by omega)
      exact ⟨_, _, _, _, (a5.fmod b5).toNat, rfl, F6, drop1 N6, by rw [e1]; omega, _, b5, a5.fmod b5, _, _, pins2 rfl rfl, rfl, hb5, by rw [e1]; omega, by rw [← hg5, e1, gcd_step ha5 hb5], rfl⟩
    · rename b5 = 0 => hb0
      subst hb0
      have e4 : a5 = Int.gcd tt (ns[i]).1 := by rw [← hg5, Int.gcd_zero]; omega
      have e5 : (ns.map Prod.fst).drop i = (ns[i]).1 :: (ns.map Prod.fst).drop (i + 1) := by
        rw [List.drop_eq_getElem_cons (by simpa using hlt)]; simp
      rw [e5] at hg
      exact ⟨_, _, _, _, ns.length - (i + 1), rfl, F5, N5, by omega, _, i + 1, o3, a5, _, pins1 rfl, rfl, hio3, by omega, rfl, ha5, by rw [e4]; exact hg⟩
  · have hx : (intsA ns)[i]? = none := by simp [intsA]; omega
    refine next_li_end rfl F2 N2 hio hne hl hx ?_
    intro h3 F3 N3
    clear F2 N2
    dsimp only
    (repeat' ((fail_if_success (with_reducible show wpAny _ _ (exec (Stmt.While _ _ _ _) _) _ _ _)); (fail_if_success (with_reducible show wpAny _ _ (exec (Stmt.For _ _ _ _ _) _) _ _ _)); (fail_if_success (with_reducible show codeAny _ _ (Code.forLoop _ _ _ _ _) _ _)); first | (k_unfold; (try dsimp only)) | (k_end; wrow_close) | ((with_reducible show wpAny _ _ (pyIter (Value.ref _)) _ _ _); with_reducible ((k_here; k_dflt (refine' iter_li ?k1 ?k2 ?k3 ?_; (case k1 => k_asm); (case k2 => k_asm); (case k3 => k_mem)); intro I' h' o' hi' F' N' l1; (try k_lt l1)))) | ((with_reducible show wpAny _ _ (execs (_ :: _) _) _ _ _); with_reducible ((refine execs_cut ?_; intro _ _))) | ((with_reducible show wpAny _ _ (callWith _ (Value.ref _) _ _ _) _ _ _); with_reducible ((k_here; k_dflt (first | (refine' callWith_K ?k1 ?k2 ?_; (case k1 => k_asm); (case k2 => k_is); k_whole) | (refine' callWith_K0 ?k1 ?k2 ?_; (case k1 => k_in); (case k2 => k_is); k_whole))))) | ((with_reducible show wpAny _ _ (binaryOp .Mult (Value.int _ _) (Value.float _ _)) _ _ _); with_reducible ((k_here; k_dflt (refine' mulif_safe ?k1 ?_; (case k1 => omega); k_whole)))) | ((with_reducible show wpAny _ _ (binaryOp .Mult (Value.float _ _) (Value.int _ _)) _ _ _); with_reducible ((k_here; k_dflt (refine' mulfi_safe ?k1 ?_; (case k1 => omega); k_whole)))) | ((with_reducible show wpAny _ _ (binaryOp .Mod (Value.float _ _) (Value.float _ _)) _ _ _); with_reducible ((k_here; k_dflt (refine' fmod_safe ?k1 ?k2 ?_; (case k1 => with_unfolding_all rfl); (case k2 => decide +kernel); k_whole)))) | ((with_reducible show wpAny _ _ (binaryOp .Div (Value.float _ _) (Value.float _ _)) _ _ _); with_reducible ((k_here; k_dflt (refine' fdiv_safe ?k1 ?k2 ?_; (case k1 => with_unfolding_all rfl); (case k2 => decide +kernel); k_whole)))) | ((with_reducible show wpAny _ _ (binaryOp .Div (Value.int _ _) (Value.int _ _)) _ _ _); with_reducible ((k_here; k_dflt (refine' div_safe ?k1 ?k2 ?k3 ?_; (case k1 => with_unfolding_all rfl); (case k2 => omega); (case k3 => omega); k_whole)))) | ((with_reducible show wpAny _ _ (call (Value.builtin "min") _) _ _ _); with_reducible ((k_here; (with_reducible show wpAny _ _ (call (Value.builtin _) [Value.int _ _, Value.int _ _, Value.int _ _]) _ _ _); k_dflt (refine' min3_N ?k1 ?k2 ?k3 ?_; (case k1 => with_unfolding_all rfl); (case k2 => k_asm); (case k3 => k_asm); k_whole); intro h' tk' tt' F' N'; (try k_sweep)))) | ((with_reducible show wpAny _ _ (call (Value.builtin "max") _) _ _ _); with_reducible ((k_here; (with_reducible show wpAny _ _ (call (Value.builtin _) [Value.int _ _, Value.int _ _, Value.int _ _]) _ _ _); k_dflt (refine' max3_N ?k1 ?k2 ?k3 ?_; (case k1 => with_unfolding_all rfl); (case k2 => k_asm); (case k3 => k_asm); k_whole); intro h' tk' tt' F' N'; (try k_sweep)))) | walk1 | dsimp only | (leave1; walk_say "STEP leave1"; try dsimp only) | fail "no step"))
    have e9 : (ns.map Prod.fst).drop i = [] := List.drop_eq_nil_of_le (by simp; omega)
    rw [e9] at hg
    refine hret _ _ _ _ (by k_asm) (by k_asm) ⟨rfl, _, by rw [← hg]; rfl⟩
end

section
section
variable {prog : Program} {w : World} {A : Around} {E : Value → Shared → Prop} {s : Shared} {h₀ : Heap} {L D : Addr} {m : Str → Option Value} {news : List (Addr × Obj)} {value slice : PySem.Expr} {Q : Value → Shared → Prop} {n : Nat} {k : Int} {u : Tok}
theorem strs_itemF {ws : List (Str × Tok)} {ds : List (Int × Tok)} {f : Int × Tok → Str} {x : Int × Tok} (hws : ws.map Prod.fst = ds.map f) (N : News h₀ L s.heap news) (hm : (D, listOf (strsL ws) n) ∈ news) (h0 : 0 ≤ k) (h1 : k < 1000) (hx : ds[k.toNat]? = some x)
    (h : ∀ t, Q (.str (f x) t) s)
    (hs : subscripted slice false (.ref D) (.int k u) = operate [.ref D, .int k u] (getItem (.ref D) (.int k u))) :
    wpAny (model prog w) A (subscriptTail value slice (.ref D) (.int k u)) Q E s := by
  have hL : s.heap.IsList D (strsL ws) := PySem.IsL.isList (n := n) (N.get hm)
  have e : (ws.map Prod.fst)[k.toNat]? = some (f x) := by rw [hws, List.getElem?_map, hx]; rfl
  rw [List.getElem?_map] at e
  obtain ⟨y, hy, hyf⟩ := Option.map_eq_some_iff.mp e
  exact tail_any hL.typeIs slot_list_getitem.lookup (wpAny_getItem_list (x := .str y.1 y.2) hL h0 (by omega) (by simp [strsL, hy]) (by rw [hyf]; exact h _)) hs
theorem ints_itemF {ds : List (Int × Tok)} {x : Int × Tok} (N : News h₀ L s.heap news) (hm : (D, listOf (intsA ds) n) ∈ news) (h0 : 0 ≤ k) (h1 : k < 1000) (hx : ds[k.toNat]? = some x)
    (h : Q (.int x.1 x.2) s)
    (hs : subscripted slice false (.ref D) (.int k u) = operate [.ref D, .int k u] (getItem (.ref D) (.int k u))) :
    wpAny (model prog w) A (subscriptTail value slice (.ref D) (.int k u)) Q E s := by
  have hL : s.heap.IsList D (intsA ds) := PySem.IsL.isList (n := n) (N.get hm)
  exact tail_any hL.typeIs slot_list_getitem.lookup (wpAny_getItem_list (x := .int x.1 x.2) hL h0 (by omega) (by simp [intsA, hx]) h) hs
end
end

section
open PySem PySem.Builtin.Str PySem.StrLaws
theorem occ_cnt (s : PySem.Str) (c limit : Nat) : ∀ (k i : Nat) (st : Array Nat × Nat), i + k = s.length + 1 → st.snd ≤ i → st.fst.size + k ≤ limit →
    (forIn (List.range' i k) st (occBody s ⟨#[c]⟩ s.length limit)).run.fst.size = st.fst.size + (s.cps.toList.drop i).count c
  | 0, i, st, h, _, _ => by
    have hl : s.cps.toList.length = s.length := Array.length_toList
    rw [List.drop_eq_nil_of_le (by omega)]
    rfl
  | k + 1, i, st, h, hf, hs => by
    have hl : s.cps.toList.length = s.length := Array.length_toList
    rw [List.range'_succ, List.forIn_cons]
    unfold occBody
    have key := subAt_one s c i
    by_cases hc : s.cps.toList[i]? = some c
    · have h2 := key.mpr hc
      rw [if_pos ⟨⟨⟨by omega, hf⟩, h2.1⟩, h2.2⟩]
      have ih := occ_cnt s c limit k (i + 1) (st.fst.push i, i + (⟨#[c]⟩ : PySem.Str).length) (by omega) (Nat.le_refl _) (by simp; omega)
      have hlt : i < s.cps.toList.length := (List.getElem?_eq_some_iff.mp hc).1
      have hx : s.cps.toList[i] = c := (List.getElem?_eq_some_iff.mp hc).2
      rw [List.drop_eq_getElem_cons hlt, hx, List.count_cons_self]
      refine Eq.trans ih ?_
      simp; omega
    · have h2 : ¬ ((((st.fst.size < limit ∧ st.snd ≤ i) ∧ i + (⟨#[c]⟩ : PySem.Str).length ≤ s.length)) ∧ subAt s ⟨#[c]⟩ i = true) := fun q => hc (key.mp ⟨q.1.2, q.2⟩)
      rw [if_neg h2]
      have ih := occ_cnt s c limit k (i + 1) (st.fst, st.snd) (by omega) (Nat.le_succ_of_le hf) (by simp; omega)
      refine Eq.trans ih ?_
      congr 1
      by_cases hlt : i < s.cps.toList.length
      · have hx : ¬ s.cps.toList[i] = c := fun e => hc (by rw [List.getElem?_eq_getElem hlt, e])
        rw [List.drop_eq_getElem_cons hlt, List.count_cons_of_ne hx]
      · rw [List.drop_eq_nil_of_le (by omega), List.drop_eq_nil_of_le (by omega)]
theorem count_one (cz : List Nat) (c : Nat) : Txt.count ⟨cz.toArray⟩ ⟨#[c]⟩ = ((cz.count c : Nat) : Int) := by
  unfold Txt.count
  rw [occ_eq, Array.length_toList]
  congr 1
  have q := occ_cnt ⟨cz.toArray⟩ c ((⟨cz.toArray⟩ : PySem.Str).length + 1) ((⟨cz.toArray⟩ : PySem.Str).length + 1) 0 (#[], 0) (by omega) (Nat.le_refl _) (by simp)
  simpa using q
theorem join_flat : ∀ us : List (List Nat), Txt.join (PySem.Str.ofString "") (us.map fun u => (⟨u.toArray⟩ : PySem.Str)) = ⟨us.flatten.toArray⟩ := by
  have e0 : PySem.Str.ofString "" = ⟨#[]⟩ := by decide +kernel
  intro us
  show glued (PySem.Str.ofString "") _ = _
  rw [glued_eq_join, e0]
  induction us with
  | nil => rfl
  | cons u r ih =>
    cases r with
    | nil => simp [PySem.Str.join]
    | cons u2 r2 =>
      show (⟨u.toArray⟩ : PySem.Str) ++ ⟨#[]⟩ ++ PySem.Str.join ⟨#[]⟩ ((u2 :: r2).map _) = _
      rw [ih]
      show (⟨u.toArray ++ #[] ++ (u2 :: r2).flatten.toArray⟩ : PySem.Str) = ⟨(u :: u2 :: r2).flatten.toArray⟩
      simp
end

section
theorem pl_dg {a : Int} (h : Seven a) : Pl (dg a) := by unfold Pl dg; unfold Seven at h; omega
noncomputable def wd (d : Int) : Wd := (d.fmod 7, (d.fdiv 7).fmod 7, (d.fdiv 49).fmod 7)
theorem sev7 (d : Int) : Seven (d.fmod 7) := ⟨Int.fmod_nonneg_of_pos _ (by decide), Int.fmod_lt_of_pos _ (by decide)⟩
theorem word_txt (d : Int) : Str.ofString (toString (d.fmod 7)) ++ Str.ofString (toString ((d.fdiv 7).fmod 7)) ++ Str.ofString (toString ((d.fdiv 49).fmod 7)) = txt (wd d) := by
  rw [str_dg (sev7 _), str_dg (sev7 _), str_dg (sev7 _)]; rfl
noncomputable def dgs (d : Int) : List Nat := [dg (d.fmod 7), dg ((d.fdiv 7).fmod 7), dg ((d.fdiv 49).fmod 7)]
noncomputable def spd (d : Int) : List Nat := spW (d.fdiv 343) (dgs d)
theorem dgs_pl (d : Int) : ∀ c ∈ dgs d, Pl c := by
  intro c hc
  simp only [dgs, List.mem_cons, List.not_mem_nil, or_false] at hc
  rcases hc with rfl | rfl | rfl <;> exact pl_dg (sev7 _)
theorem dgs_ten (d : Int) : (dgs d).count 10 = 0 := by
  rw [List.count_eq_zero]
  intro h
  have := dgs_pl d 10 h
  unfold Pl at this
  omega
theorem dgs_txt (d : Int) : (⟨(dgs d).toArray⟩ : Str) = txt (wd d) := rfl
theorem spd_len (d : Int) : (spd d).length ≤ 7 := by
  unfold spd spW
  split
  · simp [dgs]
  · split <;> simp [dgs]
theorem tok_step (d : Int) (rest : List Nat) : ∃ left, TokAt (spd d ++ rest) (dgs d) left ∧ (left = rest ∨ left = 10 :: rest) ∧ left.count 10 = (spd d ++ rest).count 10 := by
  have hp := dgs_pl d
  have ht := dgs_ten d
  have e3 : dgs d = [dg (d.fmod 7), dg ((d.fdiv 7).fmod 7), dg ((d.fdiv 49).fmod 7)] := rfl
  unfold spd
  revert hp ht e3
  generalize dg (d.fmod 7) = a
  generalize dg ((d.fdiv 7).fmod 7) = b
  generalize dg ((d.fdiv 49).fmod 7) = c
  generalize dgs d = u
  intro hp ht e3
  subst e3
  have n1 : a ≠ 10 ∧ b ≠ 10 ∧ c ≠ 10 := by
    have h1 := hp a (by simp); have h2 := hp b (by simp); have h3 := hp c (by simp)
    unfold Pl at h1 h2 h3; omega
  unfold spW
  split
  · refine ⟨rest, Or.inr (Or.inr ⟨[(false, a), (false, b), (false, c)], 32, by simp, by simp [sp], rfl, Or.inr rfl, ?_⟩), Or.inl rfl, ?_⟩
    · intro i hi
      simp only [List.mem_cons, List.not_mem_nil, or_false] at hi
      rcases hi with rfl | rfl | rfl
      · exact hp a (by simp)
      · exact hp b (by simp)
      · exact hp c (by simp)
    · simp [List.count_cons, n1.1, n1.2.1, n1.2.2]
  · split
    · refine ⟨10 :: rest, Or.inr (Or.inl ⟨by simp, hp⟩), Or.inr rfl, ?_⟩
      simp [List.count_cons, n1.1, n1.2.1, n1.2.2]
    · refine ⟨rest, Or.inr (Or.inr ⟨[(true, a), (true, b), (true, c)], 9, by simp, by simp [sp], rfl, Or.inl rfl, ?_⟩), Or.inl rfl, ?_⟩
      · intro i hi
        simp only [List.mem_cons, List.not_mem_nil, or_false] at hi
        rcases hi with rfl | rfl | rfl
        · exact hp a (by simp)
        · exact hp b (by simp)
        · exact hp c (by simp)
      · simp [List.count_cons, n1.1, n1.2.1, n1.2.2]
theorem LexIn.grow {w : World} {mean : ExcName → Option Value} {mg mb : Str → Option Value} {cz : List Nat} {lx dl fdd fs rd l : Nat} {fdx : FuncData} {kr : Tok} {fr : FuncData} {fix rest rest' : List (Addr × Obj)}
   (I : LexIn w mean mg mb cz lx dl fdd fs rd l fdx kr fr fix rest) (hs : ∀ q ∈ rest, q ∈ rest') (h1 : ∀ q ∈ rest', q.1 ≠ dl) (h2 : ∀ q ∈ rest', q.1 ≠ l) : LexIn w mean mg mb cz lx dl fdd fs rd l fdx kr fr fix rest' :=
  ⟨I.R, hs _ I.h1, hs _ I.h2, hs _ I.h3, hs _ I.h4, fun q hq => hs _ (I.hf q hq), h1, h2, I.n3⟩
theorem carried_strs : ∀ ts : List (Str × Tok), CarriedAll (ts.map fun x => Value.str x.1 x.2) ((ts.map Prod.fst).map fun a => PyData.str a)
  | [] => .nil
  | x :: r => .cons (.str _ _) (carried_strs r)
theorem join_texts {prog : Program} {w : World} {A : Around} {E : Value → Shared → Prop} {s : Shared} {D : Addr} {ts : List (Str × Tok)} {ds : List (Int × Tok)} {n : Nat} {t : Tok} {h₀ : Heap} {L : Addr} {news : List (Addr × Obj)} {Q : Value → Shared → Prop} (N : News h₀ L s.heap news) (hm : (D, listOf (strsL ts) n) ∈ news)
   (hts : ts.map Prod.fst = ds.map fun x => (⟨(spd x.1).toArray⟩ : Str)) (hn : ts.length ≤ 1000)
   (h : ∀ t' k, Q (.str ⟨((ds.map fun x => spd x.1).flatten).toArray⟩ t') { s with toks := k }) : wpAny (model prog w) A (call (.builtin "str.join") [.str (Str.ofString "") t, .ref D]) Q E s := by
  have hL : s.heap.IsList D ((ts.map fun x => Value.str x.1 x.2)).toArray := PySem.IsL.isList (n := n) (N.get hm)
  refine KT.join_B (g := fun a => a) (l := ts.map Prod.fst) 7 hL (carried_strs ts) ?_ (by rw [List.length_map]; omega) (by rw [emp_is]; decide) fun t' k => ?_
  · intro a ha
    rw [hts] at ha
    obtain ⟨x, _, rfl⟩ := List.mem_map.mp ha
    show (spd x.1).toArray.size ≤ 7
    rw [List.size_toArray]; exact spd_len _
  · have e : (ts.map Prod.fst).map (fun a => a) = (ds.map fun x => spd x.1).map fun u => (⟨u.toArray⟩ : Str) := by
      rw [hts, List.map_map, List.map_map]; rfl
    rw [e, join_flat]
    exact h t' k
noncomputable def rem (ds : List (Int × Tok)) (i : Nat) : List Nat := ((ds.drop i).map fun x => spd x.1).flatten
noncomputable def W6 (ds : List (Int × Tok)) : List Str := (ds.map fun x => txt (wd x.1)) ++ [⟨#[]⟩]
theorem tok_turn {ds : List (Int × Tok)} (hl : ds.length = 5) {i : Nat} (hi : i < 6) :
    ∃ word left lead, TokAt (rem ds i) word left ∧ left = lead ++ rem ds (i + 1) ∧ (lead = [] ∨ lead = [10]) ∧ (i + 1 = 6 → lead = []) ∧ left.count 10 = (rem ds i).count 10 ∧ word.length ≤ 10 ∧ (W6 ds).take (i + 1) = (W6 ds).take i ++ [⟨word.toArray⟩] := by
  have hlW : (W6 ds).length = 6 := by simp [W6, hl]
  have hnext : (W6 ds).take (i + 1) = (W6 ds).take i ++ [(W6 ds)[i]] := List.take_succ_eq_append_getElem (by omega)
  by_cases h5 : i < 5
  · have hlt : i < ds.length := by omega
    have e : rem ds i = spd (ds[i]).1 ++ rem ds (i + 1) := by
      unfold rem
      rw [List.drop_eq_getElem_cons hlt]; rfl
    have eW : (W6 ds)[i] = ⟨(dgs (ds[i]).1).toArray⟩ := by
      unfold W6
      rw [List.getElem_append_left (by simpa using hlt), List.getElem_map]; rfl
    obtain ⟨left, h1, h2, h3⟩ := tok_step (ds[i]).1 (rem ds (i + 1))
    rw [hnext, eW, e]
    rcases h2 with h2 | h2
    · exact ⟨_, left, [], h1, h2, Or.inl rfl, fun _ => rfl, h3, by simp [dgs], rfl⟩
    · exact ⟨_, left, [10], h1, h2, Or.inr rfl, fun _ => by omega, h3, by simp [dgs], rfl⟩
  · obtain rfl : i = 5 := by omega
    have e : rem ds 5 = [] := by unfold rem; rw [List.drop_eq_nil_of_le (by omega)]; rfl
    have e6 : rem ds (5 + 1) = [] := by unfold rem; rw [List.drop_eq_nil_of_le (by omega)]; rfl
    have eW : (W6 ds)[5] = ⟨#[]⟩ := by
      unfold W6
      rw [List.getElem_append_right (by simp [hl])]
      simp [hl]
    rw [hnext, eW, e, e6]
    exact ⟨[], [], [], Or.inl ⟨rfl, rfl, rfl⟩, rfl, Or.inl rfl, fun _ => rfl, rfl, Nat.zero_le _, rfl⟩
end

section
theorem txt_same : ∀ ss : List Str, PySem.Spec.sameAll (ss.map PyData.str) (ss.map PyData.str) = true
  | [] => by simp [PySem.Spec.sameAll]
  | a :: r => by simp [PySem.Spec.sameAll, PySem.Spec.same, txt_same r]
theorem txt_lay : ∀ ss : List Str, (∀ a ∈ ss, PyData.canLay0 (.str a) = true) → PyData.canLayAll0 (ss.map PyData.str) = true
  | [], _ => rfl
  | a :: r, h => by
    have h1 := h a (.head _)
    have h2 := txt_lay r fun b hb => h b (.tail _ hb)
    simp only [List.map_cons, PyData.canLayAll0, h1, h2, Bool.and_true]
theorem txt_depth : ∀ ss : List Str, PyData.depthAll (ss.map PyData.str) = 0
  | [] => rfl
  | _ :: r => by simp [PyData.depthAll, PyData.depth, txt_depth r]
theorem txt_shaped (ss : List Str) (h : ∀ a ∈ ss, PyData.canLay0 (.str a) = true) : SeqAt.shaped (.list (ss.map PyData.str)) = true := by
  simp [SeqAt.shaped, PyData.canLay0, PyData.depth, txt_lay ss h, txt_depth]
section
variable {prog : Program} {w : World} {A : Around} {E : Value → Shared → Prop} {s : Shared} {h₀ : Heap} {L D D2 : Addr} {m : Str → Option Value} {news : List (Addr × Obj)} {Q : Value → Shared → Prop} {n n2 : Nat}
theorem add_txts {ws : List (Str × Tok)} {x : Str} {t : Tok} (F : Fr h₀ L s.heap m) (N : News h₀ L s.heap news) (hm : (D, listOf (strsL ws) n) ∈ news) (hm2 : (D2, listOf #[.str x t] n2) ∈ news) (hl : ws.length ≤ 100)
    (h : ∀ Da h', Fr h₀ L h' m → News h₀ L h' ((Da, listOf (strsL (ws ++ [(x, t)])) 0) :: news) → (∀ p ∈ news, p.1 < Da) → Q (.ref Da) { s with heap := h' }) :
    wpAny (model prog w) A (binaryOp .Add (.ref D) (.ref D2)) Q E s := by
  have h1 : s.heap.IsList D ((ws.map fun x => Value.str x.1 x.2)).toArray := PySem.IsL.isList (n := n) (N.get hm)
  have h2 : s.heap.IsList D2 ([Value.str x t] : List Value).toArray := PySem.IsL.isList (n := n2) (N.get hm2)
  refine add_lists F N h1 h2 (fun h' F' N' => ?_) (by simp [sizeLine]; omega)
  refine h _ h' F' ?_ fun p hp => Heap.lt_size (N p hp).1
  have e : (ws.map (fun x => Value.str x.1 x.2) ++ [Value.str x t]).toArray = strsL (ws ++ [(x, t)]) := by simp [strsL]
  rw [e] at N'
  exact N'
theorem ne_txts {ts us : List (Str × Tok)} (N : News h₀ L s.heap news) (hm : (D, listOf (strsL ts) n) ∈ news) (hm2 : (D2, listOf (strsL us) n2) ∈ news) (he : ts.map Prod.fst = us.map Prod.fst) (hc : ∀ a ∈ us.map Prod.fst, PyData.canLay0 (.str a) = true)
    (hu : A.units + 64 < cLine) (h : Q (.bool false) s) : wpAny (model prog w) A (compareOp .NotEq (.ref D) (.ref D2)) Q E s := by
  have h1 : s.heap.IsList D ((ts.map fun x => Value.str x.1 x.2)).toArray := PySem.IsL.isList (n := n) (N.get hm)
  have h2 : s.heap.IsList D2 ((us.map fun x => Value.str x.1 x.2)).toArray := PySem.IsL.isList (n := n2) (N.get hm2)
  refine ne_dataH_same (reads_newData h1 (carried_strs ts)) (reads_newData h2 (carried_strs us)) (by rw [he]; exact txt_shaped _ hc) (txt_shaped _ hc) hu
    (SeqAt.noMix_of_shape (.list .str) rfl _ _ (list_map_has fun _ => rfl) (list_map_has fun _ => rfl)) ?_
  rw [he]
  simp only [PySem.Spec.same, txt_same]
  exact h
end
theorem lay_txt (d : Int) : PyData.canLay0 (.str (txt (wd d))) = true := by
  have h1 := pl_dg (sev7 d)
  have h2 := pl_dg (sev7 (d.fdiv 7))
  have h3 := pl_dg (sev7 (d.fdiv 49))
  unfold Pl at h1 h2 h3
  show PyData.canLay0 (.str ⟨#[dg (d.fmod 7), dg ((d.fdiv 7).fmod 7), dg ((d.fdiv 49).fmod 7)]⟩) = true
  revert h1 h2 h3
  generalize dg (d.fmod 7) = a
  generalize dg ((d.fdiv 7).fmod 7) = b
  generalize dg ((d.fdiv 49).fmod 7) = c
  intro h1 h2 h3
  simp [PyData.canLay0, PyData.strOk]
  omega
theorem lay_no : PyData.canLay0 (.str ⟨#[]⟩) = true := by simp [PyData.canLay0, PyData.strOk]
theorem lay_W6 (ds : List (Int × Tok)) : ∀ a ∈ W6 ds, PyData.canLay0 (.str a) = true := by
  intro a ha
  rcases List.mem_append.mp ha with h | h
  · obtain ⟨x, _, rfl⟩ := List.mem_map.mp h
    exact lay_txt _
  · rw [List.mem_singleton.mp h]; exact lay_no
end

section
theorem ne_same {prog : Program} {w : World} {A : Around} {E : Value → Shared → Prop} {s : Shared} {a b : Int} {t u : Tok} {Q : Value → Shared → Prop} (e : a = b) (h : Q (.bool false) s) : wpAny (model prog w) A (compareOp .NotEq (.int a t) (.int b u)) Q E s := by
  subst e
  exact ne_int (by simpa using h)
end

section
noncomputable def chkZ (r g b : Nat) : Bool := decide (Nm0 (nmA r g b) (nmB r g b))
theorem chkZ_all : ∀ r : Fin 7, ∀ g : Fin 7, ∀ b : Fin 7, chkZ r.1 g.1 b.1 = true := by decide +kernel
theorem nm_0 {r g b : Int} (h1 : Seven r) (h2 : Seven g) (h3 : Seven b) : Nm0 (nmA r g b) (nmB r g b) := by
  have q := chkZ_all ⟨r.toNat, by omega⟩ ⟨g.toNat, by omega⟩ ⟨b.toNat, by omega⟩
  unfold chkZ at q
  dsimp only at q
  rw [show ((r.toNat : Nat) : Int) = r by omega, show ((g.toNat : Nat) : Int) = g by omega, show ((b.toNat : Nat) : Int) = b by omega] at q
  exact of_decide_eq_true q
noncomputable def nzW (q : Wd) : Bool := !(nmA q.1 q.2.1 q.2.2 == 0 && nmB q.1 q.2.1 q.2.2 == 0)
theorem ok_wd {d : Int} (h : nzW (wd d) = true) : okW (wd d) := by
  refine ⟨⟨sev7 _, sev7 _, sev7 _⟩, ?_⟩
  have q := nm_0 (sev7 d) (sev7 (d.fdiv 7)) (sev7 (d.fdiv 49))
  rcases q with q | ⟨q1, q2⟩
  · exact q
  · exfalso
    unfold nzW at h
    rw [show nmA (wd d).1 (wd d).2.1 (wd d).2.2 = 0 from q1, show nmB (wd d).1 (wd d).2.1 (wd d).2.2 = 0 from q2] at h
    exact absurd h (by decide)
/-- the colours' words that are no grey -/
noncomputable def qsOf (ds : List (Int × Tok)) : List Wd := (ds.map fun x => wd x.1).filter nzW
theorem qs_ok (ds : List (Int × Tok)) : ∀ q ∈ qsOf ds, okW q := by
  intro q hq
  obtain ⟨h1, h2⟩ := List.mem_filter.mp hq
  obtain ⟨x, _, rfl⟩ := List.mem_map.mp h1
  exact ok_wd h2
theorem qs_len (ds : List (Int × Tok)) : (qsOf ds).length ≤ ds.length := by
  have := List.length_filter_le nzW (ds.map fun x => wd x.1)
  simpa [qsOf] using this
theorem qs_next {ds : List (Int × Tok)} {i : Nat} (hi : i < ds.length) : qsOf (ds.take (i + 1)) = qsOf (ds.take i) ++ (if nzW (wd (ds[i]).1) = true then [wd (ds[i]).1] else []) := by
  unfold qsOf
  rw [List.take_succ_eq_append_getElem hi, List.map_append, List.filter_append]
  congr 1
  by_cases h : nzW (wd (ds[i]).1) = true
  · rw [if_pos h]; simp [h]
  · rw [if_neg h]; simp [h]
end

section
theorem nz_no {d : Int} (h : (nmA (d.fmod 7) ((d.fdiv 7).fmod 7) ((d.fdiv 49).fmod 7) == 0 && nmB (d.fmod 7) ((d.fdiv 7).fmod 7) ((d.fdiv 49).fmod 7) == 0) = true) : ¬ nzW (wd d) = true := by
  unfold nzW wd
  rw [h]; decide
theorem nz_yes {d : Int} (h : (nmA (d.fmod 7) ((d.fdiv 7).fmod 7) ((d.fdiv 49).fmod 7) == 0 && nmB (d.fmod 7) ((d.fdiv 7).fmod 7) ((d.fdiv 49).fmod 7) == 0) = false) : nzW (wd d) = true := by
  unfold nzW wd
  rw [h]; decide
theorem PT.mono {n1 n2 : List (Addr × Obj)} {pa pb : Addr → Int} {x : Addr} (h : PT n1 pa pb x) (hs : ∀ p ∈ n1, p ∈ n2) : PT n2 pa pb x := by
  obtain ⟨⟨ta, tb, n, h1⟩, h2⟩ := h
  exact ⟨⟨ta, tb, n, hs _ h1⟩, h2⟩
theorem PT.grow {n1 : List (Addr × Obj)} {pa pb : Addr → Int} {xs : List Addr} {D : Addr} {a b : Int} {t u : Tok} {k : Nat} (hit : ∀ x ∈ xs, PT n1 pa pb x) (hD : ∀ p ∈ n1, p.1 < D) (hnm : Nm0 a b) :
    ∃ pa' pb', (∀ x ∈ xs ++ [D], PT ((D, pairO (.int a t) (.int b u) k) :: n1) pa' pb' x) ∧ nms pa' pb' (xs ++ [D]) = nms pa pb xs ++ [(a, b)] := by
  have hne : ∀ x ∈ xs, x ≠ D := fun x hx e => by
    obtain ⟨⟨ta, tb, n, h1⟩, _⟩ := hit x hx
    have := hD _ h1
    rw [e] at this
    exact absurd this (Nat.lt_irrefl _)
  refine ⟨fun z => if z = D then a else pa z, fun z => if z = D then b else pb z, ?_, ?_⟩
  · intro x hx
    rcases List.mem_append.mp hx with hx | hx
    · have := (hit x hx).mono (n2 := (D, pairO (.int a t) (.int b u) k) :: n1) fun p hp => .tail _ hp
      unfold PT
      simp only [if_neg (hne x hx)]
      exact this
    · rw [List.mem_singleton.mp hx]
      unfold PT
      simp only [if_pos]
      exact ⟨⟨_, _, _, .head _⟩, hnm⟩
  · unfold nms
    rw [List.map_append]
    congr 1
    · refine List.map_congr_left fun x hx => ?_
      simp only [if_neg (hne x hx)]
    · simp
/-- the names of all five colours make the ideal of those that are no grey -/
theorem qs_same (ds : List (Int × Tok)) : Same ((qsOf ds).map nmW) (ds.map fun x => nmW (wd x.1)) := by
  intro S I
  unfold qsOf
  constructor
  · intro h p hp
    obtain ⟨x, hx, rfl⟩ := List.mem_map.mp hp
    by_cases hz : nzW (wd x.1) = true
    · exact h _ (List.mem_map.mpr ⟨wd x.1, List.mem_filter.mpr ⟨List.mem_map.mpr ⟨x, hx, rfl⟩, hz⟩, rfl⟩)
    · have q : nmA (wd x.1).1 (wd x.1).2.1 (wd x.1).2.2 = 0 ∧ nmB (wd x.1).1 (wd x.1).2.1 (wd x.1).2.2 = 0 := by
        unfold nzW at hz
        simpa using hz
      show S (nmA (wd x.1).1 (wd x.1).2.1 (wd x.1).2.2) (nmB (wd x.1).1 (wd x.1).2.1 (wd x.1).2.2)
      rw [q.1, q.2]; exact I.zero
  · intro h p hp
    obtain ⟨q, hq, rfl⟩ := List.mem_map.mp hp
    obtain ⟨h1, _⟩ := List.mem_filter.mp hq
    obtain ⟨x, hx, rfl⟩ := List.mem_map.mp h1
    exact h _ (List.mem_map.mpr ⟨x, hx, rfl⟩)
/-- the plain numbers -/
noncomputable def plW (q : Wd) : Int × Int := (q.1 - q.2.2, q.2.1 - q.2.2)
theorem pl_same (ds : List (Int × Tok)) : Same (ds.map fun x => nmW (wd x.1)) (ds.map fun x => plW (wd x.1)) := by
  intro S I
  have k : ∀ d : Int, S (nmW (wd d)).1 (nmW (wd d)).2 ↔ S (plW (wd d)).1 (plW (wd d)).2 := fun d => I.as (nm_as (sev7 d) (sev7 (d.fdiv 7)) (sev7 (d.fdiv 49)))
  simp only [List.forall_mem_map]
  exact ⟨fun h x hx => (k x.1).mp (h x hx), fun h x hx => (k x.1).mpr (h x hx)⟩
end

section
/-- a pair's place in the ledger -/
noncomputable def PV (news : List (Addr × Obj)) (pa pb : Addr → Int) (x : Addr) : Prop := ∃ ta tb n, (x, pairO (.int (pa x) ta) (.int (pb x) tb) n) ∈ news
theorem PV.mono {n1 n2 : List (Addr × Obj)} {pa pb : Addr → Int} {x : Addr} (h : PV n1 pa pb x) (hs : ∀ p ∈ n1, p ∈ n2) : PV n2 pa pb x := by
  obtain ⟨ta, tb, n, h1⟩ := h
  exact ⟨ta, tb, n, hs _ h1⟩
theorem PV.grow {n1 : List (Addr × Obj)} {pa pb : Addr → Int} {xs : List Addr} {D : Addr} {a b : Int} {t u : Tok} {k : Nat} (hit : ∀ x ∈ xs, PV n1 pa pb x) (hD : ∀ p ∈ n1, p.1 < D) :
    ∃ pa' pb', (∀ x ∈ xs ++ [D], PV ((D, pairO (.int a t) (.int b u) k) :: n1) pa' pb' x) ∧ nms pa' pb' (xs ++ [D]) = nms pa pb xs ++ [(a, b)] := by
  have hne : ∀ x ∈ xs, x ≠ D := fun x hx e => by
    obtain ⟨ta, tb, n, h1⟩ := hit x hx
    have := hD _ h1
    rw [e] at this
    exact absurd this (Nat.lt_irrefl _)
  refine ⟨fun z => if z = D then a else pa z, fun z => if z = D then b else pb z, ?_, ?_⟩
  · intro x hx
    rcases List.mem_append.mp hx with hx | hx
    · have := (hit x hx).mono (n2 := (D, pairO (.int a t) (.int b u) k) :: n1) fun p hp => .tail _ hp
      unfold PV
      simp only [if_neg (hne x hx)]
      exact this
    · rw [List.mem_singleton.mp hx]
      unfold PV
      simp only [if_pos]
      exact ⟨_, _, _, .head _⟩
  · unfold nms
    rw [List.map_append]
    congr 1
    · refine List.map_congr_left fun x hx => ?_
      simp only [if_neg (hne x hx)]
    · simp
end

section
theorem CompRestP.ind {prog : Program} {w : World} {A : Around} {h₀ : Heap} {L : Addr} {m : Str → Option Value} {env : Env} {s : Shared} {elt : Expr} {x x₂ : Str} {scope : Scope} {cl : List (Str × Addr)} {S : List (Addr × Obj) → Prop} {P : Nat → Value → Prop} {Fin : List Value → List (Addr × Obj) → Prop} (J : Nat → List Value → List (Addr × Obj) → Prop) {n : Nat} {ys₀ : List Value} {news₀ : List (Addr × Obj)}
    (h0 : J 0 ys₀ news₀)
    (step : ∀ i ys news v, i < n → J i ys news → P i v → ∃ (t : Addr) (ot : Obj) (v₁ v₂ : Value) (nt : Nat), v = .ref t ∧ (t, ot) ∈ news ∧ ot.cls = .type "tuple" ∧ ot.data = .seq #[v₁, v₂] nt ∧
      ∀ I oI C oC D m₂ h tk (E' : Value → Shared → Prop), LCg.NsObj oC m₂ → m₂ x = some v₁ → m₂ x₂ = some v₂ → Fr h₀ L h m → News h₀ L h ((I, oI) :: (C, oC) :: (D, LCg.lst ys) :: news) → (∀ p ∈ news, p.1 ≠ I ∧ p.1 ≠ C ∧ p.1 ≠ D) → ((@Ne Nat I C) ∧ (@Ne Nat I D) ∧ (@Ne Nat C D)) →
        wpAny (model prog w) A (eval elt (compEnvC scope cl C env)) (LCg.CompEnd h₀ L m { s with heap := h, toks := tk } I oI C oC D (LCg.lst ys) S (fun y news' => J (i + 1) (ys ++ [y]) news')) E' { s with heap := h, toks := tk })
    (fin : ∀ ys news, J n ys news → Fin ys news) : LCp.CompRestP prog w A h₀ L m env elt x x₂ scope cl s S P Fin n 0 ys₀ news₀ := by
  suffices H : ∀ k i ys news, i + k = n → J i ys news → LCp.CompRestP prog w A h₀ L m env elt x x₂ scope cl s S P Fin k i ys news from H n 0 ys₀ news₀ (Nat.zero_add n) h0
  intro k
  induction k with
  | zero => intro i ys news e hJ; have : i = n := by omega
            subst this; exact LCp.CompRestP.zero (fin _ _ hJ)
  | succ k ih =>
    intro i ys news e hJ
    refine LCp.CompRestP.succ ?_
    intro v hv
    obtain ⟨t, ot, v₁, v₂, nt, e1, e2, e3, e4, go⟩ := step i ys news v (by omega) hJ hv
    refine ⟨t, ot, v₁, v₂, nt, e1, e2, e3, e4, ?_⟩
    intro I oI C oC D m₂ h tk E' hC hx hx2 F N off ne
    exact wpAny_mono (go I oI C oC D m₂ h tk E' hC hx hx2 F N (LCg.Off3.mem off) ne) (fun y s'' q' => compEnd_mono q' fun y n r => ih (i + 1) _ _ (by omega) r) fun _ _ e => e
theorem add_refs {prog : Program} {w : World} {A : Around} {E : Value → Shared → Prop} {s : Shared} {h₀ : Heap} {L D D2 : Addr} {m : Str → Option Value} {news : List (Addr × Obj)} {Q : Value → Shared → Prop} {n n2 : Nat} {as bs : List Addr} (F : Fr h₀ L s.heap m) (N : News h₀ L s.heap news) (hm : (D, listOf (refs as) n) ∈ news) (hm2 : (D2, listOf (refs bs) n2) ∈ news) (hl : as.length + bs.length ≤ 100)
    (h : ∀ Da h', Fr h₀ L h' m → News h₀ L h' ((Da, listOf (refs (as ++ bs)) 0) :: news) → (∀ p ∈ news, p.1 < Da) → Q (.ref Da) { s with heap := h' }) :
    wpAny (model prog w) A (binaryOp .Add (.ref D) (.ref D2)) Q E s := by
  have h1 : s.heap.IsList D (as.map Value.ref).toArray := PySem.IsL.isList (n := n) (N.get hm)
  have h2 : s.heap.IsList D2 (bs.map Value.ref).toArray := PySem.IsL.isList (n := n2) (N.get hm2)
  refine add_lists F N h1 h2 (fun h' F' N' => ?_) (by simp [sizeLine]; omega)
  refine h _ h' F' ?_ fun p hp => Heap.lt_size (N p hp).1
  have e : (as.map Value.ref ++ bs.map Value.ref).toArray = refs (as ++ bs) := by simp [refs]
  rw [e] at N'
  exact N'
/-- the pairs of a list of places -/
noncomputable def PairsAt (news : List (Addr × Obj)) (rs : List Addr) (R : List (Int × Int)) : Prop := rs.length = R.length ∧ ∀ (i : Nat) (a : Addr) (x : Int × Int), rs[i]? = some a → R[i]? = some x → ∃ ta tb n, (a, pairO (.int x.1 ta) (.int x.2 tb) n) ∈ news
theorem PairsAt.of {news : List (Addr × Obj)} {as : List Addr} {pa pb : Addr → Int} (h : ∀ a ∈ as, PV news pa pb a) : PairsAt news as (nms pa pb as) := by
  refine ⟨by simp [nms], fun i a x ha hx => ?_⟩
  unfold nms at hx
  rw [List.getElem?_map, ha] at hx
  cases hx
  exact h a (List.mem_of_getElem? ha)
theorem PairsAt.mono {n1 n2 : List (Addr × Obj)} {rs : List Addr} {R : List (Int × Int)} (h : PairsAt n1 rs R) (hs : ∀ p ∈ n1, p ∈ n2) : PairsAt n2 rs R :=
  ⟨h.1, fun i a x ha hx => by obtain ⟨ta, tb, n, q⟩ := h.2 i a x ha hx; exact ⟨ta, tb, n, hs _ q⟩⟩
theorem PairsAt.app {news : List (Addr × Obj)} {as bs : List Addr} {R R' : List (Int × Int)} (h : PairsAt news as R) (h' : PairsAt news bs R') : PairsAt news (as ++ bs) (R ++ R') := by
  refine ⟨by rw [List.length_append, List.length_append, h.1, h'.1], fun i a x ha hx => ?_⟩
  by_cases hi : i < as.length
  · rw [List.getElem?_append_left hi] at ha
    rw [List.getElem?_append_left (by rw [← h.1]; exact hi)] at hx
    exact h.2 i a x ha hx
  · rw [List.getElem?_append_right (by omega)] at ha
    rw [List.getElem?_append_right (by rw [← h.1]; omega), ← h.1] at hx
    exact h'.2 _ a x ha hx
end

section
section
variable {prog : Program} {w : World} {A : Around} {R : Result → Shared → Prop} {s : Shared} {elt i0 i1 t0 t1 : Expr} {scope : Scope} {pos : Pos} {it acc : Value} {env : Env}
theorem turn_in (elt i0 i1 t0 t1 : Expr) (scope : Scope) (pos : Pos) (it acc : Value) (env : Env) :
    compTurn (.ListComp elt [⟨t0, i0, [], 0⟩, ⟨t1, i1, [], 0⟩] scope pos) 1 it acc env = (standAt i1.pos >>= fun _ => pyNext it >>= fun r => match r with
      | none => pure (.done .next)
      | some v => letOwnedTupleGo t1 it v >>= fun _ => assign t1 env v >>= fun _ =>
        (eval elt env >>= fun x => call (.builtin "list.append") [acc, x] >>= fun _ => pure ()) >>= fun _ =>
          again (.compLoop (.ListComp elt [⟨t0, i0, [], 0⟩, ⟨t1, i1, [], 0⟩] scope pos) 1 it acc env)) := by rfl
theorem turn_out (elt i0 i1 t0 t1 : Expr) (scope : Scope) (pos : Pos) (it acc : Value) (env : Env) :
    compTurn (.ListComp elt [⟨t0, i0, [], 0⟩, ⟨t1, i1, [], 0⟩] scope pos) 0 it acc env = (standAt i0.pos >>= fun _ => pyNext it >>= fun r => match r with
      | none => pure (.done .next)
      | some v => letOwnedTupleGo t0 it v >>= fun _ => assign t0 env v >>= fun _ =>
        eval i1 env >>= fun x => standAt i1.pos >>= fun _ => foldedSetIterable i1 env x >>= fun x => holding [x] (pyIter x) >>= fun j =>
          runOwn (.compStart (.ListComp elt [⟨t0, i0, [], 0⟩, ⟨t1, i1, [], 0⟩] scope pos) 1 j acc env) env >>= fun _ =>
          again (.compLoop (.ListComp elt [⟨t0, i0, [], 0⟩, ⟨t1, i1, [], 0⟩] scope pos) 0 it acc env)) := by rfl
theorem loop_in (I : Nat → Shared → Prop)
    (turn : ∀ n s, I n s → wpAny (model prog w) A (pyNext it) (fun r s₁ => match r with
      | none => R (.ok .next) s₁
      | some v => wpAny (model prog w) A (assign t1 env v) (fun _ s₂ => wpAny (model prog w) A (eval elt env) (fun x s₃ =>
          wpAny (model prog w) A (call (.builtin "list.append") [acc, x]) (fun _ s₄ => ∃ m, m < n ∧ I m s₄) (notedBy (model prog w) A env fun e s' => R (.error e) s') s₃)
          (notedBy (model prog w) A env fun e s' => R (.error e) s') s₂) (notedBy (model prog w) A env fun e s' => R (.error e) s') s₁) (notedBy (model prog w) A env fun e s' => R (.error e) s') s)
    (n : Nat) (h : I n s) (ht : ∀ v, letOwnedTupleGo t1 it v = pure ()) :
    codeAny (model prog w) A (.compLoop (.ListComp elt [⟨t0, i0, [], 0⟩, ⟨t1, i1, [], 0⟩] scope pos) 1 it acc env) R s := by
  refine codeAny_loop rfl I (fun n s hI => ?_) n h
  show wpAny _ _ ((compTurn (.ListComp elt [⟨t0, i0, [], 0⟩, ⟨t1, i1, [], 0⟩] scope pos) 1 it acc env).onRaise (fun x => do noteFrame x env; theTreesLotGoes x)) _ _ s
  refine wpAny_noted ?_
  rw [turn_in]
  refine wpAny_bind (wpAny_standAt (wpAny_bind (wpAny_mono (turn n s hI) (fun r s₁ h₁ => ?_) fun _ _ h' => h')))
  cases r with
  | none => exact wpAny_pure h₁
  | some v =>
    refine wpAny_bind (wpAny_of_eq (ht v) ?_)
    exact wpAny_bind (wpAny_mono h₁ (fun _ s₂ h₂ => wpAny_bind (wpAny_bind (wpAny_mono h₂ (fun x s₃ h₃ => wpAny_bind (wpAny_mono h₃
      (fun _ s₄ h₄ => wpAny_pure (wpAny_pure ⟨rfl, h₄⟩)) fun _ _ h' => h')) fun _ _ h' => h'))) fun _ _ h' => h')
theorem loop_out (I : Nat → Shared → Prop)
    (turn : ∀ n s, I n s → wpAny (model prog w) A (pyNext it) (fun r s₁ => match r with
      | none => R (.ok .next) s₁
      | some v => wpAny (model prog w) A (assign t0 env v) (fun _ s₂ => wpAny (model prog w) A (eval i1 env) (fun x s₃ =>
          wpAny (model prog w) A (pyIter x) (fun j s₄ =>
            codeAny (model prog w) (A.mark none) (.compStart (.ListComp elt [⟨t0, i0, [], 0⟩, ⟨t1, i1, [], 0⟩] scope pos) 1 j acc env) (fun r s' => match r with | .ok _ => ∃ m, m < n ∧ I m s' | .error _ => False) s₄) (notedBy (model prog w) A env fun e s' => R (.error e) s') s₃)
          (notedBy (model prog w) A env fun e s' => R (.error e) s') s₂) (notedBy (model prog w) A env fun e s' => R (.error e) s') s₁) (notedBy (model prog w) A env fun e s' => R (.error e) s') s)
    (n : Nat) (h : I n s) (ht : ∀ v, letOwnedTupleGo t0 it v = pure ()) (hs : ∀ x, foldedSetIterable i1 env x = pure x) :
    codeAny (model prog w) A (.compLoop (.ListComp elt [⟨t0, i0, [], 0⟩, ⟨t1, i1, [], 0⟩] scope pos) 0 it acc env) R s := by
  refine codeAny_loop rfl I (fun n s hI => ?_) n h
  show wpAny _ _ ((compTurn (.ListComp elt [⟨t0, i0, [], 0⟩, ⟨t1, i1, [], 0⟩] scope pos) 0 it acc env).onRaise (fun x => do noteFrame x env; theTreesLotGoes x)) _ _ s
  refine wpAny_noted ?_
  rw [turn_out]
  refine wpAny_bind (wpAny_standAt (wpAny_bind (wpAny_mono (turn n s hI) (fun r s₁ h₁ => ?_) fun _ _ h' => h')))
  cases r with
  | none => exact wpAny_pure h₁
  | some v =>
    refine wpAny_bind (wpAny_of_eq (ht v) ?_)
    refine wpAny_bind (wpAny_mono h₁ (fun _ s₂ h₂ => wpAny_bind (wpAny_mono h₂ (fun x s₃ h₃ => wpAny_bind (wpAny_standAt (wpAny_bind (wpAny_of_eq (hs x) (wpAny_bind (wpAny_holding (wpAny_mono h₃ (fun j s₄ h₄ => ?_) fun _ _ h' => h'))))))) fun _ _ h' => h')) fun _ _ h' => h')
    refine wpAny_bind (wpAny_runOwn (codeAny_mono h₄ fun r s' hr => ?_))
    cases r with
    | ok f => exact wpAny_pure ⟨rfl, hr⟩
    | error e => exact hr.elim
theorem start_in
    (h0 : codeAny (model prog w) A (.compLoop (.ListComp elt [⟨t0, i0, [], 0⟩, ⟨t1, i1, [], 0⟩] scope pos) 1 it acc env) R s)
    (h : wpAny (model prog w) A (pyIter it) (fun it' s' => codeAny (model prog w) A (.compLoop (.ListComp elt [⟨t0, i0, [], 0⟩, ⟨t1, i1, [], 0⟩] scope pos) 1 it' acc env) R s')
      (notedBy (model prog w) A env fun x s' => R (.error x) s') s) :
    codeAny (model prog w) A (.compStart (.ListComp elt [⟨t0, i0, [], 0⟩, ⟨t1, i1, [], 0⟩] scope pos) 1 it acc env) R s := by
  refine codeAny_of_tree ?_
  show wpAny _ _ ((compStart (.ListComp elt [⟨t0, i0, [], 0⟩, ⟨t1, i1, [], 0⟩] scope pos) 1 it acc env).onRaise (fun x => do noteFrame x env; standAt theWindowsPlace)) _ _ s
  refine wpAny_notedAt ?_
  unfold compStart
  show wpAny _ _ (ask >>= _) _ _ s
  refine wpAny_bind (wpAny_askSetting (wpAny_ite ?_))
  split
  · first
      | exact wpAny_bind (wpAny_pure (wpAny_pure (And.intro rfl h0)))
      | exact wpAny_pure (And.intro rfl h0)
  · first
      | exact wpAny_bind (wpAny_rule (wpAny_bind (wpAny_standAt (wpAny_bind (wpAny_mono h (fun it' s' h' => wpAny_pure (And.intro rfl h')) fun _ _ x => x)))))
      | (refine wpAny_bind (wpAny_rule ?_); show wpAny _ _ (standAt i1.pos >>= _) _ _ s; exact wpAny_bind (wpAny_standAt (wpAny_bind (wpAny_mono h (fun it' s' h' => wpAny_pure (And.intro rfl h')) fun _ _ x => x))))
theorem start_out
    (h0 : codeAny (model prog w) A (.compLoop (.ListComp elt [⟨t0, i0, [], 0⟩, ⟨t1, i1, [], 0⟩] scope pos) 0 it acc env) R s)
    (h : wpAny (model prog w) A (pyIter it) (fun it' s' => codeAny (model prog w) A (.compLoop (.ListComp elt [⟨t0, i0, [], 0⟩, ⟨t1, i1, [], 0⟩] scope pos) 0 it' acc env) R s')
      (notedBy (model prog w) A env fun x s' => R (.error x) s') s) :
    codeAny (model prog w) A (.compStart (.ListComp elt [⟨t0, i0, [], 0⟩, ⟨t1, i1, [], 0⟩] scope pos) 0 it acc env) R s := codeAny_compStart_list h0 h
end
end

section
section
variable {prog : Program} {w : World} {A : Around} {E : Value → Shared → Prop} {s : Shared} {h₀ : Heap} {L : Addr} {m : Str → Option Value} {news : List (Addr × Obj)} {env : Env}
theorem iter_rangeN {r : Addr} {n : Int} {t u v : Tok} {Q : Value → Shared → Prop} (F : Fr h₀ L s.heap m) (N : News h₀ L s.heap news) (hm : (r, rangeO 0 n 1 t u v) ∈ news) (h0 : 0 ≤ n ∧ n < 1000)
    (h : ∀ I h', Fr h₀ L h' m → News h₀ L h' ((I, riO 0 n 1) :: news) → (∀ p ∈ news, p.1 < I) → Q (.ref I) { s with heap := h' }) : wpAny (model prog w) A (pyIter (.ref r)) Q E s := by
  have hr : IsRange s.heap r 0 n 1 t u v := N.get hm
  have e : Builtin.Range.rangeSize 0 n 1 = n := by unfold Builtin.Range.rangeSize; (repeat' split) <;> omega
  have hsm : Builtin.Range.small 0 n 1 = true := by
    unfold Builtin.Range.small Builtin.Range.rangeFitsLong
    rw [e]
    simp only [Bool.and_eq_true, decide_eq_true_eq]
    refine ⟨by omega, ?_⟩
    rw [if_pos (by decide : (1 : Int) > 0), Bool.or_eq_true]
    right
    simp only [Bool.and_eq_true, decide_eq_true_eq]
    omega
  refine wpAny_pyIter_range hr hsm ?_
  rw [e]
  exact h _ _ (F.push _) (N.push F _) fun p hp => Heap.lt_size (N p hp).1
/-- the block's frame and its list -/
theorem block_N {scope : Scope} {cl : List (Str × Addr)} {RR : Value → Addr → Result → Shared → Prop} {CD : Value → Env → Code} (hcell : ∀ y ∈ scope.names, y.2 ≠ .cell) (hkind : scope.kind = .function)
    (F : Fr h₀ L s.heap m) (N : News h₀ L s.heap news)
    (go : ∀ D C oC m₂ h tk, LCg.NsObj oC m₂ → Fr h₀ L h m → News h₀ L h ((C, oC) :: (D, LCg.lst []) :: news) → (∀ p ∈ news, @LT.lt Nat _ p.1 D) → @LT.lt Nat _ D C → codeAny (model prog w) A (CD (.ref D) (compEnvC scope cl C env)) (RR (.ref D) C) { s with heap := h, toks := tk }) :
    wpAny (model prog w) A (newList []) (fun acc s₃ => wpAny (model prog w) A (newFunctionEnv scope env.globals cl [] env.qual none .none (some env)) (fun cenv s₄ =>
      codeAny (model prog w) A (CD acc { cenv with scope := relabel scope env }) (RR acc cenv.locals) s₄) E s₃) E s := by
  refine wpAny_newObj_type (wpAny_newFunctionEnv hcell (by intro y hy; simp at hy) (fun h₁ hns₁ hsb₁ => ?_) hkind)
  dsimp only at hns₁ hsb₁ ⊢
  have F2 : Fr h₀ L (s.heap.push { cls := .type "list", dict := none, data := .seq ([] : List Value).toArray }) m := F.push _
  have N2 := N.push F { cls := .type "list", dict := none, data := .seq ([] : List Value).toArray }
  have hlt : ∀ p ∈ news, @LT.lt Nat _ p.1 s.heap.objs.size := fun p hp => Heap.lt_size (N p hp).1
  have hDC : @LT.lt Nat _ s.heap.objs.size (s.heap.push { cls := .type "list", dict := none, data := .seq ([] : List Value).toArray }).objs.size := by rw [Heap.size_push]; exact Nat.lt_succ_self _
  generalize s.heap.push { cls := .type "list", dict := none, data := .seq ([] : List Value).toArray } = H2 at hns₁ hsb₁ F2 N2 hDC ⊢
  obtain ⟨oC, heC, hoC⟩ := LCg.ns_obj hns₁
  have hC0 : H2.get? H2.objs.size = none := by
    cases e : H2.get? H2.objs.size with
    | none => rfl
    | some o => exact absurd (Heap.lt_size e) (Nat.lt_irrefl _)
  have hC₀ : h₀.get? H2.objs.size = none := by
    cases e : h₀.get? H2.objs.size with
    | none => rfl
    | some o => have := F2.keep _ _ e; rw [hC0] at this; cases this
  have hLC : H2.objs.size ≠ L := by
    intro e
    have := F2.ns.lt
    rw [← e] at this
    exact absurd this (Nat.lt_irrefl _)
  have up : ∀ b o, H2.get? b = some o → h₁.get? b = some o := fun b o e => hsb₁.extBut b o (fun q => by rw [q, hC0] at e; cases e) (Heap.get?_push_of_some _ e)
  refine go s.heap.objs.size H2.objs.size oC _ h₁ _ hoC (F2.keeps up) ?_ hlt hDC
  intro p hp
  rcases List.mem_cons.mp hp with rfl | hp
  · exact ⟨heC, hLC, hC₀⟩
  · exact ⟨up _ _ (N2 p hp).1, (N2 p hp).2⟩
/-- a name of the block's stored -/
theorem store_C {scope : Scope} {cl : List (Str × Addr)} {C : Addr} {oC : Obj} {m₂ : Str → Option Value} {x : Str} {px : Pos} {v : Value} {LX : List (Addr × Obj)} {Q : Unit → Shared → Prop} (hkind : scope.kind = .function) (hx : scope.names.lookup x = some .local)
    (F : Fr h₀ L s.heap m) (N : News h₀ L s.heap ((C, oC) :: LX)) (hC : LCg.NsObj oC m₂) (hne : ∀ p ∈ LX, p.1 ≠ C)
    (h : ∀ h' oC' tk, LCg.NsObj oC' (fun z => if z = x then some v else m₂ z) → Fr h₀ L h' m → News h₀ L h' ((C, oC') :: LX) → Q () { s with heap := h', toks := tk }) :
    wpAny (model prog w) A (assign (.Name x px) (compEnvC scope cl C env) v) Q E s := by
  have z := N (C, oC) (.head _)
  refine wpAny_assign_Name (wpAny_storeName_local (env := compEnvC scope cl C env) (PySem.lookup_relabel_local hx) (hC.ns z.1) (fun h₃ hn₃ hs₃ => ?_) (by simp [compEnvC, relabel, hkind]))
  obtain ⟨oC', heC, hoC⟩ := LCg.ns_obj hn₃
  refine h h₃ oC' _ hoC (F.change hs₃ z.2.1 z.2.2) ?_
  intro p hp
  rcases List.mem_cons.mp hp with rfl | hp
  · exact ⟨heC, z.2⟩
  · exact ⟨hs₃.extBut _ _ (hne p hp) (N p (.tail _ hp)).1, (N p (.tail _ hp)).2⟩
/-- an int laid at the block's list -/
theorem lay_D {D : Addr} {ys : List (Int × Tok)} {k : Int} {t : Tok} {LX : List (Addr × Obj)} {Q : Value → Shared → Prop} (F : Fr h₀ L s.heap m) (N : News h₀ L s.heap ((D, LCg.lst (ys.map fun x => Value.int x.1 x.2)) :: LX)) (hne : ∀ p ∈ LX, p.1 ≠ D) (hl : ys.length ≤ 1000)
    (h : ∀ h', Fr h₀ L h' m → News h₀ L h' ((D, LCg.lst ((ys ++ [(k, t)]).map fun x => Value.int x.1 x.2)) :: LX) → Q .none { s with heap := h' }) :
    wpAny (model prog w) A (call (.builtin "list.append") [.ref D, .int k t]) Q E s := by
  have z := N (D, LCg.lst (ys.map fun x => Value.int x.1 x.2)) (.head _)
  refine append_at (hsz := by rw [List.size_toArray, List.length_map, sizeLine]; omega) z.1 fun h₅ hs₅ hD₅ => ?_
  refine h h₅ (F.change hs₅ z.2.1 z.2.2) ?_
  intro p hp
  rcases List.mem_cons.mp hp with rfl | hp
  · refine ⟨?_, z.2⟩
    have e := LCg.lst_snoc (ys.map fun x => Value.int x.1 x.2) (Value.int k t)
    rw [List.map_append]
    exact hD₅.trans (congrArg some e)
  · exact ⟨hs₅.extBut _ _ (hne p hp) (N p (.tail _ hp)).1, (N p (.tail _ hp)).2⟩
end
end

section
noncomputable def rowsTo (f : Nat → Nat → Int) (i : Nat) : List Int := (List.range i).flatMap fun a => (List.range a).map (f a)
theorem rowsTo_succ (f : Nat → Nat → Int) (i : Nat) : rowsTo f (i + 1) = rowsTo f i ++ (List.range i).map (f i) := by
  unfold rowsTo
  rw [List.range_succ, List.flatMap_append]
  simp
theorem rowsTo_len (f : Nat → Nat → Int) : ∀ i, (rowsTo f i).length ≤ i * i
  | 0 => Nat.le_refl _
  | i + 1 => by
    rw [rowsTo_succ, List.length_append, List.length_map, List.length_range]
    have := rowsTo_len f i
    have e : (i + 1) * (i + 1) = i * i + (i + i + 1) := by grind
    omega
section
variable {prog : Program} {w : World} {A : Around} {E : Value → Shared → Prop} {s : Shared} {h₀ : Heap} {L : Addr} {m : Str → Option Value} {news : List (Addr × Obj)} {env : Env}
theorem core_N {elt i0 i1 : Expr} {x0 x1 : Str} {p0 p1 : Pos} {scope : Scope} {cl : List (Str × Addr)} {pos : Pos} {RR : Value → Addr → Result → Shared → Prop} {r : Addr} {t u v : Tok} (f : Nat → Nat → Int) (n : Nat) (hn : n ≤ 20)
    (hcell : ∀ y ∈ scope.names, y.2 ≠ .cell) (hkind : scope.kind = .function)
    (hx0 : scope.names.lookup x0 = some .local) (hx1 : scope.names.lookup x1 = some .local) (hxx : x0 ≠ x1) (hh : A.handled = none)
    (F1 : Fr h₀ L s.heap m) (N1 : News h₀ L s.heap ((r, rangeO 0 (n : Int) 1 t u v) :: news)) (l1 : ∀ p ∈ news, p.1 < r)
    (iter1 : ∀ (i : Nat) C oC m₂ t h tk LX (E' : Value → Shared → Prop), i < n → LCg.NsObj oC m₂ → m₂ x0 = some (.int (i : Int) t) → Fr h₀ L h m → (∀ q ∈ news, q ∈ LX) → News h₀ L h ((C, oC) :: LX) →
      wpAny (model prog w) A (eval i1 (compEnvC scope cl C env)) (fun xv s' => ∃ r h' tk' t u v, xv = .ref r ∧ s' = { s with heap := h', toks := tk' } ∧ Fr h₀ L h' m ∧ News h₀ L h' ((r, rangeO 0 (i : Int) 1 t u v) :: (C, oC) :: LX) ∧ (∀ p ∈ (C, oC) :: LX, p.1 < r)) E' { s with heap := h, toks := tk })
    (eltH : ∀ (i k : Nat) C oC m₂ t t' h tk LX (E' : Value → Shared → Prop), i < n → k < i → LCg.NsObj oC m₂ → m₂ x0 = some (.int (i : Int) t) → m₂ x1 = some (.int (k : Int) t') → Fr h₀ L h m → (∀ q ∈ news, q ∈ LX) → News h₀ L h ((C, oC) :: LX) →
      wpAny (model prog w) A (eval elt (compEnvC scope cl C env)) (fun y s' => ∃ tt h' tk', y = .int (f i k) tt ∧ s' = { s with heap := h', toks := tk' } ∧ Fr h₀ L h' m ∧ News h₀ L h' ((C, oC) :: LX)) E' { s with heap := h, toks := tk })
    (fin : ∀ D C oC m₂ h tk (ys : List (Int × Tok)), ys.map Prod.fst = rowsTo f n → LCg.NsObj oC m₂ → Fr h₀ L h m → News h₀ L h ((C, oC) :: (D, LCg.lst (ys.map fun x => Value.int x.1 x.2)) :: news) → (∀ p ∈ news, @LT.lt Nat _ p.1 D) → @LT.lt Nat _ D C → RR (.ref D) C (.ok .next) { s with heap := h, toks := tk })
    (hs1 : ∀ C x, foldedSetIterable i1 (compEnvC scope cl C env) x = pure x) :
    wpAny (model prog w) A (pyIter (.ref r)) (fun it s₂ => wpAny (model prog w) A (newList []) (fun acc s₃ => wpAny (model prog w) A (newFunctionEnv scope env.globals cl [] env.qual none .none (some env)) (fun cenv s₄ =>
      codeAny (model prog w) A (.compStart (.ListComp elt [⟨.Name x0 p0, i0, [], 0⟩, ⟨.Name x1 p1, i1, [], 0⟩] scope pos) 0 it acc { cenv with scope := relabel scope env }) (RR acc cenv.locals) s₄) E s₃) E s₂) E s := by
  refine iter_rangeN F1 N1 (.head _) ⟨by omega, by omega⟩ ?_
  intro I h2 F2 N2 l2
  refine block_N (CD := fun acc cenv => .compStart (.ListComp elt [⟨.Name x0 p0, i0, [], 0⟩, ⟨.Name x1 p1, i1, [], 0⟩] scope pos) 0 (.ref I) acc cenv) (RR := RR) hcell hkind F2 N2 ?_
  intro D C oC m₂ h3 tk3 hC F3 N3 lD lC
  have b1 : ∀ p ∈ news, @LT.lt Nat _ p.1 r := l1
  have b2 : @LT.lt Nat _ r I := l2 _ (.head _)
  have b3 : ∀ p ∈ news, @LT.lt Nat _ p.1 I := fun p hp => l2 p (.tail _ hp)
  have b4 : @LT.lt Nat _ I D := lD _ (.head _)
  have loop : ∀ s0 : Shared, s0 = { s with heap := h3, toks := tk3 } → codeAny (model prog w) A (.compLoop (.ListComp elt [⟨.Name x0 p0, i0, [], 0⟩, ⟨.Name x1 p1, i1, [], 0⟩] scope pos) 0 (.ref I) (.ref D) (compEnvC scope cl C env)) (RR (.ref D) C) s0 := by
    rintro s0 rfl
    refine loop_out (fun k s' => ∃ h' tk oC m₂ i, ∃ ys : List (Int × Tok), s' = { s with heap := h', toks := tk } ∧ i ≤ n ∧ k = n - i ∧ LCg.NsObj oC m₂ ∧ Fr h₀ L h' m ∧
        News h₀ L h' ((I, riO (i : Int) ((n : Int) - i) 1) :: (C, oC) :: (D, LCg.lst (ys.map fun x => Value.int x.1 x.2)) :: (r, rangeO 0 (n : Int) 1 t u v) :: news) ∧ ys.map Prod.fst = rowsTo f i)
      ?turn n ⟨h3, tk3, oC, m₂, 0, [], rfl, Nat.zero_le _, rfl, hC, F3, ?n3, rfl⟩ (by intro _; rfl) (hs1 C)
    case n3 =>
      refine Mine.News.sub N3 fun q hq => ?_
      simp only [List.mem_cons] at hq ⊢
      rcases hq with h | h | h | h | h
      · subst h; refine Or.inr (Or.inr (Or.inl ?_)); rw [show ((0 : Nat) : Int) = 0 from rfl, Int.sub_zero]
      · exact Or.inl h
      · exact Or.inr (Or.inl h)
      · exact Or.inr (Or.inr (Or.inr (Or.inl h)))
      · exact Or.inr (Or.inr (Or.inr (Or.inr h)))
    case turn =>
      rintro k s' ⟨h', tk, oC, m₂, i, ys, rfl, hi, rfl, hC, F', N', hys⟩
      have neI : ∀ p ∈ (C, oC) :: (D, LCg.lst (ys.map fun x => Value.int x.1 x.2)) :: (r, rangeO 0 (n : Int) 1 t u v) :: news, p.1 ≠ I := by
        intro p hp
        simp only [List.mem_cons] at hp
        rcases hp with h | h | h | h
        · subst h; exact (show @Ne Nat _ _ by dsimp only; omega)
        · subst h; exact (show @Ne Nat _ _ by dsimp only; omega)
        · subst h; exact (show @Ne Nat _ _ by dsimp only; omega)
        · exact Nat.ne_of_lt (b3 p h)
      by_cases hlt : i < n
      · refine next_ri F' N' neI (by omega) ?_
        intro h4 F4 N4
        dsimp only
        have N5 := swap2 N4
        have neC : ∀ p ∈ (I, riO ((i : Int) + 1) ((n : Int) - i - 1) 1) :: (D, LCg.lst (ys.map fun x => Value.int x.1 x.2)) :: (r, rangeO 0 (n : Int) 1 t u v) :: news, p.1 ≠ C := by
          intro p hp
          simp only [List.mem_cons] at hp
          rcases hp with h | h | h | h
          · subst h; exact (show @Ne Nat _ _ by dsimp only; omega)
          · subst h; exact (show @Ne Nat _ _ by dsimp only; omega)
          · subst h; exact (show @Ne Nat _ _ by dsimp only; omega)
          · exact (show @Ne Nat _ _ by have := b3 p h; omega)
        refine store_C hkind hx0 F4 N5 hC neC ?_
        intro h5 oC5 tk5 hC5 F5 N6
        have hsub : ∀ q ∈ news, q ∈ (I, riO ((i : Int) + 1) ((n : Int) - i - 1) 1) :: (D, LCg.lst (ys.map fun x => Value.int x.1 x.2)) :: (r, rangeO 0 (n : Int) 1 t u v) :: news := fun q hq => .tail _ (.tail _ (.tail _ hq))
        refine wpAny_mono (iter1 i C oC5 _ _ h5 tk5 _ _ hlt hC5 (if_pos rfl) F5 hsub N6) (fun xv s6 h6 => ?_) (fun _ _ e => e)
        obtain ⟨r1, h7, tk7, t9, u9, v9, rfl, rfl, F7, N7, l7⟩ := h6
        refine iter_rangeN F7 N7 (.head _) ⟨by omega, by omega⟩ ?_
        intro J h8 F8 N8 l8
        rw [Around.mark_none]
        have c1 : @LT.lt Nat _ C r1 := l7 _ (.head _)
        have c2 : @LT.lt Nat _ r1 J := l8 _ (.head _)
        have c3 : ∀ p ∈ news, @LT.lt Nat _ p.1 C := fun p hp => Nat.lt_trans (Nat.lt_trans (b3 p hp) b4) lC
        have hii : i * i ≤ 20 * 20 := Nat.mul_le_mul (by omega) (by omega)
        refine start_in ?a (iter_ri (N8.get (.head _)) ?b)
        all_goals
          refine loop_in (fun k' s'' => ∃ h9 tk9 oC9 m9 k, ∃ ys9 : List (Int × Tok), s'' = { s with heap := h9, toks := tk9 } ∧ k ≤ i ∧ k' = i - k ∧ LCg.NsObj oC9 m9 ∧ (∃ t0, m9 x0 = some (.int (i : Int) t0)) ∧ Fr h₀ L h9 m ∧
              News h₀ L h9 ((J, riO (k : Int) ((i : Int) - k) 1) :: (C, oC9) :: (D, LCg.lst (ys9.map fun x => Value.int x.1 x.2)) :: (I, riO ((i : Int) + 1) ((n : Int) - i - 1) 1) :: (r, rangeO 0 (n : Int) 1 t u v) :: news) ∧ ys9.map Prod.fst = rowsTo f i ++ (List.range k).map (f i))
            ?tin i ⟨h8, tk7, oC5, _, 0, ys, rfl, Nat.zero_le _, rfl, hC5, ⟨_, if_pos rfl⟩, F8, ?nin, by rw [hys]; simp⟩ (by intro _; rfl)
          case nin =>
            refine Mine.News.sub N8 fun q hq => ?_
            simp only [List.mem_cons] at hq ⊢
            rcases hq with h | h | h | h | h | h
            · subst h; refine Or.inl ?_; rw [show ((0 : Nat) : Int) = 0 from rfl, Int.sub_zero]
            · exact Or.inr (Or.inr (Or.inl h))
            · exact Or.inr (Or.inr (Or.inr (Or.inr (Or.inl h))))
            · exact Or.inr (Or.inr (Or.inr (Or.inl h)))
            · exact Or.inr (Or.inr (Or.inr (Or.inr (Or.inr (Or.inl h)))))
            · exact Or.inr (Or.inr (Or.inr (Or.inr (Or.inr (Or.inr h)))))
          case tin =>
            rintro k' s'' ⟨h9, tk9, oC9, m9, k, ys9, rfl, hk, rfl, hC9, ⟨tx0, hm0⟩, F9, N9, hys9⟩
            have neJ : ∀ p ∈ (C, oC9) :: (D, LCg.lst (ys9.map fun x => Value.int x.1 x.2)) :: (I, riO ((i : Int) + 1) ((n : Int) - i - 1) 1) :: (r, rangeO 0 (n : Int) 1 t u v) :: news, p.1 ≠ J := by
              intro p hp
              simp only [List.mem_cons] at hp
              rcases hp with h | h | h | h | h
              · subst h; exact (show @Ne Nat _ _ by dsimp only; omega)
              · subst h; exact (show @Ne Nat _ _ by dsimp only; omega)
              · subst h; exact (show @Ne Nat _ _ by dsimp only; omega)
              · subst h; exact (show @Ne Nat _ _ by dsimp only; omega)
              · exact (show @Ne Nat _ _ by have := c3 p h; omega)
            by_cases hki : k < i
            · refine next_ri F9 N9 neJ (by omega) ?_
              intro ha Fa Na
              dsimp only
              have Nb := swap2 Na
              have neC2 : ∀ p ∈ (J, riO ((k : Int) + 1) ((i : Int) - k - 1) 1) :: (D, LCg.lst (ys9.map fun x => Value.int x.1 x.2)) :: (I, riO ((i : Int) + 1) ((n : Int) - i - 1) 1) :: (r, rangeO 0 (n : Int) 1 t u v) :: news, p.1 ≠ C := by
                intro p hp
                simp only [List.mem_cons] at hp
                rcases hp with h | h | h | h | h
                · subst h; exact (show @Ne Nat _ _ by dsimp only; omega)
                · subst h; exact (show @Ne Nat _ _ by dsimp only; omega)
                · subst h; exact (show @Ne Nat _ _ by dsimp only; omega)
                · subst h; exact (show @Ne Nat _ _ by dsimp only; omega)
                · exact (show @Ne Nat _ _ by have := c3 p h; omega)
              refine store_C hkind hx1 Fa Nb hC9 neC2 ?_
              intro hb oCb tkb hCb Fb Nc
              refine wpAny_mono (eltH i k C oCb _ _ _ hb tkb _ _ hlt hki hCb ((if_neg hxx).trans hm0) (if_pos rfl) Fb (fun q hq => .tail _ (.tail _ (.tail _ (.tail _ hq)))) Nc) (fun y s6 h6 => ?_) (fun _ _ e => e)
              obtain ⟨tt, hc, tkc, rfl, rfl, Fc, Nd⟩ := h6
              have Ne' : News h₀ L hc ((D, LCg.lst (ys9.map fun x => Value.int x.1 x.2)) :: (C, oCb) :: (J, riO ((k : Int) + 1) ((i : Int) - k - 1) 1) :: (I, riO ((i : Int) + 1) ((n : Int) - i - 1) 1) :: (r, rangeO 0 (n : Int) 1 t u v) :: news) := perm3 Nd
              have neD : ∀ p ∈ (C, oCb) :: (J, riO ((k : Int) + 1) ((i : Int) - k - 1) 1) :: (I, riO ((i : Int) + 1) ((n : Int) - i - 1) 1) :: (r, rangeO 0 (n : Int) 1 t u v) :: news, p.1 ≠ D := by
                intro p hp
                simp only [List.mem_cons] at hp
                rcases hp with h | h | h | h | h
                · subst h; exact (show @Ne Nat _ _ by dsimp only; omega)
                · subst h; exact (show @Ne Nat _ _ by dsimp only; omega)
                · subst h; exact (show @Ne Nat _ _ by dsimp only; omega)
                · subst h; exact (show @Ne Nat _ _ by dsimp only; omega)
                · exact (show @Ne Nat _ _ by have := b3 p h; omega)
              have hyl : ys9.length ≤ 1000 := by
                have q := congrArg List.length hys9
                rw [List.length_map, List.length_append, List.length_map, List.length_range] at q
                have := rowsTo_len f i
                omega
              refine lay_D Fc Ne' neD hyl ?_
              intro hd Fd Nf
              refine ⟨i - (k + 1), by omega, hd, tkc, oCb, _, k + 1, ys9 ++ [(f i k, tt)], rfl, hki, rfl, hCb, ⟨_, (if_neg hxx).trans hm0⟩, Fd, ?_, by rw [List.map_append, hys9, List.range_succ, List.map_append, List.append_assoc]; rfl⟩
              rw [show (((k + 1 : Nat)) : Int) = (k : Int) + 1 from rfl, show (i : Int) - ((k : Int) + 1) = (i : Int) - k - 1 by omega]
              exact Mine.News.sub Nf fun q hq => by
                simp only [List.mem_cons] at hq ⊢
                rcases hq with h | h | h | h | h | h <;> simp [h]
            · have hke : k = i := by omega
              subst hke
              refine next_ri_end hh F9 N9 neJ (by omega) ?_
              intro ha Fa Na
              refine ⟨n - (k + 1), by omega, ha, tk9, oC9, m9, k + 1, ys9, rfl, hlt, rfl, hC9, Fa, ?_, by rw [hys9, rowsTo_succ]⟩
              rw [show (((k + 1 : Nat)) : Int) = (k : Int) + 1 from rfl, show (n : Int) - ((k : Int) + 1) = (n : Int) - k - 1 by omega]
              exact Mine.News.sub Na fun q hq => by
                simp only [List.mem_cons] at hq ⊢
                rcases hq with h | h | h | h | h <;> simp [h]
      · have hin : i = n := by omega
        subst hin
        refine next_ri_end hh F' N' neI (by omega) ?_
        intro h4 F4 N4
        exact fin D C oC m₂ h4 tk ys hys hC F4 (Mine.News.sub N4 fun q hq => by
          simp only [List.mem_cons] at hq ⊢
          rcases hq with h | h | h <;> simp [h]) (fun p hp => Nat.lt_trans (b3 p hp) b4) lC
  exact start_out (loop _ rfl) (iter_ri (N3.get (.tail _ (.tail _ (.head _)))) (loop _ rfl))
theorem assign_N {elt i0 i1 : Expr} {x0 x1 y : Str} {p0 p1 py : Pos} {scope : Scope} {cl : List (Str × Addr)} {pos spos : Pos} {Q : Flow → Shared → Prop} (_F₀ : Fr h₀ L s.heap m) (f : Nat → Nat → Int) (n : Nat) (hn : n ≤ 20) (hLe : env.locals = L)
    (hsw : swapsWith (.ListComp elt [⟨.Name x0 p0, i0, [], 0⟩, ⟨.Name x1 p1, i1, [], 0⟩] scope pos) (some (.Name y py)) spos.line env = pure true)
    (hclos : closureFor scope env = pure cl) (hcell : ∀ y ∈ scope.names, y.2 ≠ .cell) (hkind : scope.kind = .function)
    (hnames : ∀ y ∈ scope.names, y.2 = .local → scope.names.lookup y.1 = some .local) (hx0 : scope.names.lookup x0 = some .local) (hx1 : scope.names.lookup x1 = some .local) (hxx : x0 ≠ x1)
    (hy : env.kindOf y = some .local) (hp : (env.scope.kind == .class || (env.scope.kind == .module && env.locals != env.globals)) = false) (hh : A.handled = none)
    (iter0 : wpAny (model prog w) A (eval i0 env) (fun xv s' => ∃ r h' tk' t u v, xv = .ref r ∧ s' = { s with heap := h', toks := tk' } ∧ Fr h₀ L h' m ∧ News h₀ L h' ((r, rangeO 0 (n : Int) 1 t u v) :: news) ∧ (∀ p ∈ news, p.1 < r)) E s)
    (iter1 : ∀ (i : Nat) C oC m₂ t h tk LX (E' : Value → Shared → Prop), i < n → LCg.NsObj oC m₂ → m₂ x0 = some (.int (i : Int) t) → Fr h₀ L h m → (∀ q ∈ news, q ∈ LX) → News h₀ L h ((C, oC) :: LX) →
      wpAny (model prog w) A (eval i1 (compEnvC scope cl C env)) (fun xv s' => ∃ r h' tk' t u v, xv = .ref r ∧ s' = { s with heap := h', toks := tk' } ∧ Fr h₀ L h' m ∧ News h₀ L h' ((r, rangeO 0 (i : Int) 1 t u v) :: (C, oC) :: LX) ∧ (∀ p ∈ (C, oC) :: LX, p.1 < r)) E' { s with heap := h, toks := tk })
    (eltH : ∀ (i k : Nat) C oC m₂ t t' h tk LX (E' : Value → Shared → Prop), i < n → k < i → LCg.NsObj oC m₂ → m₂ x0 = some (.int (i : Int) t) → m₂ x1 = some (.int (k : Int) t') → Fr h₀ L h m → (∀ q ∈ news, q ∈ LX) → News h₀ L h ((C, oC) :: LX) →
      wpAny (model prog w) A (eval elt (compEnvC scope cl C env)) (fun y s' => ∃ tt h' tk', y = .int (f i k) tt ∧ s' = { s with heap := h', toks := tk' } ∧ Fr h₀ L h' m ∧ News h₀ L h' ((C, oC) :: LX)) E' { s with heap := h, toks := tk })
    (fin : ∀ D h tk (ys : List (Int × Tok)), ys.map Prod.fst = rowsTo f n → Fr h₀ L h (fun z => if z = y then some (.ref D) else m z) → News h₀ L h ((D, LCg.lst (ys.map fun x => Value.int x.1 x.2)) :: news) → (∀ p ∈ news, @LT.lt Nat _ p.1 D) → Q .next { s with heap := h, toks := tk })
    (hs : ∀ x, foldedSetIterable i0 env x = pure x := by intro _; rfl) (hs1 : ∀ C x, foldedSetIterable i1 (compEnvC scope cl C env) x = pure x := by intro _ _; rfl) :
    wpAny (model prog w) A (exec (.Assign [.Name y py] (.ListComp elt [⟨.Name x0 p0, i0, [], 0⟩, ⟨.Name x1 p1, i1, [], 0⟩] scope pos) spos) env) Q E s := by
  subst hLe
  rw [exec_Assign_Name_used _ _ _ _ hsw]
  refine wpAny_bind (wpAny_standAt (wpAny_bind ?_))
  show wpAny _ A (do let _ ← comprehension (.ListComp elt [⟨.Name x0 p0, i0, [], 0⟩, ⟨.Name x1 p1, i1, [], 0⟩] scope pos) scope env _ (newList []) false (eval i0 env) (some (assign (.Name y py) env))) _ _ s
  refine wpAny_bind (wpAny_mono (wpAny_comprehension_free (use := some (assign (.Name y py) env)) (Q := fun _ s' => Q .next s') rfl hs hclos hkind hnames (wpAny_mono iter0 (fun xv s₁ h₁ => ?_) fun _ _ e => e)) (fun _ s' hq => wpAny_pure (wpAny_pure hq)) fun _ _ e => e)
  obtain ⟨r, h1, tk1, t, u, v, rfl, rfl, F1, N1, l1⟩ := h₁
  refine core_N (s := { s with heap := h1, toks := tk1 }) (RR := fun acc C => compPost (model prog w) A E (some (assign (.Name y py) env)) (fun _ s' => Q .next s') acc C) f n hn hcell hkind hx0 hx1 hxx hh F1 N1 l1 iter1 eltH ?_ hs1
  intro D C oC m₂ h tk ys hys hC F N lD lC
  show wpAny _ A (assign (.Name y py) env (.ref D)) _ _ _
  have zC := N (C, oC) (.head _)
  refine wpAny_assign_Name (wpAny_storeName_local hy F.ns (fun h₂ hn₂ hs₂ => ?_) hp)
  have hL₀ : h₀.get? env.locals = none := Heap.get?_none_of_le F.above
  have F₂ : Fr h₀ env.locals h₂ (fun z => if z = y then some (.ref D) else m z) := ⟨hn₂, fun b o e => hs₂.extBut b o (fun q => by rw [q, hL₀] at e; cases e) (F.keep b o e), F.above⟩
  refine ⟨m₂, (hC.ns zC.1).sameBut hs₂ zC.2.1, fun h'' hs'' => fin D h'' _ ys hys (F₂.change hs'' zC.2.1 zC.2.2) (fun p hp => ?_) lD⟩
  have hp2 : p ∈ (C, oC) :: (D, LCg.lst (ys.map fun x => Value.int x.1 x.2)) :: news := .tail _ hp
  have z : h₂.get? p.1 = some p.2 := hs₂.extBut _ _ (N p hp2).2.1 (N p hp2).1
  refine ⟨hs''.extBut _ _ ?_ z, (N p hp2).2⟩
  rcases List.mem_cons.mp hp with rfl | hp
  · exact (show @Ne Nat _ _ by dsimp only; omega)
  · exact (show @Ne Nat _ _ by have := lD p hp; omega)
end
end

section
theorem refs_itemE {prog : Program} {w : World} {A : Around} {E : Value → Shared → Prop} {s : Shared} {h₀ : Heap} {L D : Addr} {news : List (Addr × Obj)} {n : Nat} {xs : List Addr} {k : Int} {u : Tok} {x : Addr} {value slice : PySem.Expr} {Q : Value → Shared → Prop} (N : News h₀ L s.heap news) (hm : (D, listOf (refs xs) n) ∈ news) (h0 : 0 ≤ k) (h1 : k < 1000) (hx : xs[k.toNat]? = some x)
    (h : Q (.ref x) s)
    (hs : subscripted slice false (.ref D) (.int k u) = operate [.ref D, .int k u] (getItem (.ref D) (.int k u))) :
    wpAny (model prog w) A (subscriptTail value slice (.ref D) (.int k u)) Q E s := by
  have hL : s.heap.IsList D (refs xs) := PySem.IsL.isList (n := n) (N.get hm)
  exact tail_any hL.typeIs slot_list_getitem.lookup (wpAny_getItem_list (x := .ref x) hL h0 (by omega) (by simp [refs, hx]) h) hs
noncomputable def Pl5 (ds : List (Int × Tok)) : List (Int × Int) := ds.map fun x => plW (wd x.1)
noncomputable def RW (ds : List (Int × Tok)) : List (Int × Int) := Pl5 ds ++ ds.map fun x => Mine.tw (plW (wd x.1))
theorem RW_rows (ds : List (Int × Tok)) : RW ds = rows (Pl5 ds) := by
  unfold RW rows Pl5
  rw [List.map_map]; rfl
theorem plW_le (d : Int) : (-7 < (plW (wd d)).1 ∧ (plW (wd d)).1 < 7) ∧ (-7 < (plW (wd d)).2 ∧ (plW (wd d)).2 < 7) := by
  have s1' := sev7 d
  have s2' := sev7 (d.fdiv 7)
  have s3' := sev7 (d.fdiv 49)
  unfold plW wd
  unfold Seven at s1' s2' s3'
  dsimp only
  omega
theorem RW_le (ds : List (Int × Tok)) : ∀ x ∈ RW ds, (-14 < x.1 ∧ x.1 < 14) ∧ (-14 < x.2 ∧ x.2 < 14) := by
  intro x hx
  rcases List.mem_append.mp hx with hx | hx
  · obtain ⟨y, _, rfl⟩ := List.mem_map.mp hx
    have := plW_le y.1
    omega
  · obtain ⟨y, _, rfl⟩ := List.mem_map.mp hx
    have := plW_le y.1
    unfold Mine.tw
    dsimp only
    omega
theorem RW_len {ds : List (Int × Tok)} (h : ds.length = 5) : (RW ds).length = 10 := by simp [RW, Pl5, h]
noncomputable def fRW (ds : List (Int × Tok)) (i k : Nat) : Int := det ((RW ds).getD i (0, 0)) ((RW ds).getD k (0, 0))
theorem rows_min {ds : List (Int × Tok)} (h : ds.length = 5) : rowsTo (fRW ds) 10 = pairsOf (rows (Pl5 ds)) := by
  rw [← RW_rows]
  unfold pairsOf rowsTo fRW
  rw [RW_len h]
theorem fRW_is {ds : List (Int × Tok)} {i k : Nat} {x y : Int × Int} (hx : (RW ds)[i]? = some x) (hy : (RW ds)[k]? = some y) : x.1 * y.2 - x.2 * y.1 = fRW ds i k := by
  unfold fRW
  rw [List.getD_eq_getElem?_getD, List.getD_eq_getElem?_getD, hx, hy]; rfl
end

section
theorem nm0_le {a b : Int} (h : Nm0 a b) : (-100 < a ∧ a < 100) ∧ (-100 < b ∧ b < 100) := by
  rcases h with h | ⟨rfl, rfl⟩
  · unfold Nm at h; omega
  · omega
theorem ne_diff {prog : Program} {w : World} {A : Around} {E : Value → Shared → Prop} {s : Shared} {a b : Int} {t u : Tok} {Q : Value → Shared → Prop} (e : a ≠ b) (h : Q (.bool true) s) : wpAny (model prog w) A (compareOp .NotEq (.int a t) (.int b u)) Q E s :=
  ne_int (by rw [show (a != b) = true from bne_iff_ne.mpr e]; exact h)
theorem LexIn.to {w : World} {mean : ExcName → Option Value} {mg mb : Str → Option Value} {cz : List Nat} {lx dl fdd fs rd l : Nat} {fdx : FuncData} {kr : Tok} {fr : FuncData} {fix rest rest' R : List (Addr × Obj)}
   (I : LexIn w mean mg mb cz lx dl fdd fs rd l fdx kr fr fix rest) (m1 : (lx, instObj 101 dl) ∈ R) (m2 : (fdd, dictOf [⟨PyData.keyHash w.params "read", .str "read" kr, .ref rd⟩] 1) ∈ R) (m3 : (fs, fnD fdx #[] (some fdd)) ∈ R) (m4 : (rd, fnD fr #[] none) ∈ R) (mf : ∀ q ∈ fix, q ∈ R)
   (hs : ∀ q ∈ R, q ∈ rest') (h1 : ∀ q ∈ rest', q.1 ≠ dl) (h2 : ∀ q ∈ rest', q.1 ≠ l) : LexIn w mean mg mb cz lx dl fdd fs rd l fdx kr fr fix rest' :=
  ⟨I.R, hs _ m1, hs _ m2, hs _ m3, hs _ m4, fun q hq => hs _ (mf q hq), h1, h2, I.n3⟩
theorem min_common {ds : List (Int × Tok)} {ys : List (Int × Tok)} {g h : Int} (hl : ds.length = 5) (hys : ys.map Prod.fst = rowsTo (fRW ds) 10) (hS : Same [(g, h)] (ds.map fun x => nmW (wd x.1))) : cgl 0 (ys.map Prod.fst) = nrm g h := by
  rw [hys, rows_min hl]
  exact measure_is (hS.trans (pl_same ds))
theorem dvd_fmod {a n : Int} (h : n ∣ a) : a.fmod n = 0 := Int.fmod_eq_zero_of_dvd h
theorem part_is {ds : List (Int × Tok)} {g h : Int} (hS : Same [(g, h)] (ds.map fun x => nmW (wd x.1))) {i : Nat} (hi : i < ds.length) :
   (tbA (plW (wd (ds[i]).1)).1 (plW (wd (ds[i]).1)).2 g h).fmod (nrm g h) = 0 ∧ (tbB (plW (wd (ds[i]).1)).1 (plW (wd (ds[i]).1)).2 g h).fmod (nrm g h) = 0 := by
  have q := parts_is (hS.trans (pl_same ds)) (plW (wd (ds[i]).1)) (List.mem_map.mpr ⟨ds[i], List.getElem_mem _, rfl⟩)
  exact ⟨dvd_fmod q.1, dvd_fmod q.2⟩
theorem low8 {Dw D L ct : Nat} {o1 o2 o3 o4 o5 o6 o7 o8 : Obj} (h1 : Dw < ct) (h2 : D < ct) (h3 : L + 1 + 1 + 1 + 1 + 1 + 1 < ct) : ∀ q ∈ ([(Dw, o1), (D, o2), (L + 1 + 1 + 1 + 1 + 1 + 1, o3), (L + 1 + 1 + 1 + 1 + 1, o4), (L + 1 + 1 + 1 + 1, o5), (L + 1 + 1 + 1, o6), (L + 1 + 1, o7), (L + 1, o8)] : List (Addr × Obj)), @LT.lt Nat _ q.1 ct := by
  have h4 := Nat.lt_of_succ_lt h3
  have h5 := Nat.lt_of_succ_lt h4
  have h6 := Nat.lt_of_succ_lt h5
  have h7 := Nat.lt_of_succ_lt h6
  have h8 := Nat.lt_of_succ_lt h7
  exact List.forall_mem_cons.mpr ⟨h1, List.forall_mem_cons.mpr ⟨h2, List.forall_mem_cons.mpr ⟨h3, List.forall_mem_cons.mpr ⟨h4, List.forall_mem_cons.mpr ⟨h5, List.forall_mem_cons.mpr ⟨h6, List.forall_mem_cons.mpr ⟨h7, List.forall_mem_cons.mpr ⟨h8, fun _ hq => nomatch hq⟩⟩⟩⟩⟩⟩⟩⟩
theorem low8_ne {Dw D L : Nat} {o1 o2 o3 o4 o5 o6 o7 o8 : Obj} (h1 : Dw ≠ 107) (h2 : D ≠ 107) (h3 : 107 < L) : ∀ q ∈ ([(Dw, o1), (D, o2), (L + 1 + 1 + 1 + 1 + 1 + 1, o3), (L + 1 + 1 + 1 + 1 + 1, o4), (L + 1 + 1 + 1 + 1, o5), (L + 1 + 1 + 1, o6), (L + 1 + 1, o7), (L + 1, o8)] : List (Addr × Obj)), q.1 ≠ 107 := by
  have g1 : 107 < L + 1 := Nat.lt_succ_of_lt h3
  have g2 := Nat.lt_succ_of_lt g1
  have g3 := Nat.lt_succ_of_lt g2
  have g4 := Nat.lt_succ_of_lt g3
  have g5 := Nat.lt_succ_of_lt g4
  have g6 := Nat.lt_succ_of_lt g5
  exact List.forall_mem_cons.mpr ⟨h1, List.forall_mem_cons.mpr ⟨h2, List.forall_mem_cons.mpr ⟨Nat.ne_of_gt g6, List.forall_mem_cons.mpr ⟨Nat.ne_of_gt g5, List.forall_mem_cons.mpr ⟨Nat.ne_of_gt g4, List.forall_mem_cons.mpr ⟨Nat.ne_of_gt g3, List.forall_mem_cons.mpr ⟨Nat.ne_of_gt g2, List.forall_mem_cons.mpr ⟨Nat.ne_of_gt g1, fun _ hq => nomatch hq⟩⟩⟩⟩⟩⟩⟩⟩
theorem rest9 {pb lx dl fdd fs c2 rd c1 l ca ct : Nat} {o1 o2 o3 o4 o5 o6 o7 o8 o9 : Obj} (hord : ct < ca ∧ ca < l ∧ l < c1 ∧ c1 < rd ∧ rd < c2 ∧ c2 < fs ∧ fs < fdd ∧ fdd < dl ∧ dl < lx ∧ lx < pb) (h107 : 107 < ct) :
   ∀ q ∈ ([(lx, o1), (fdd, o2), (fs, o3), (c2, o4), (rd, o5), (c1, o6), (ca, o7), (ct, o8), (107, o9)] : List (Addr × Obj)), ((@LE.le Nat _ ct q.1) ∨ @Eq Nat q.1 107) ∧ @Ne Nat q.1 pb ∧ @Ne Nat q.1 dl ∧ @Ne Nat q.1 l := by
  obtain ⟨a1, a2, a3, a4, a5, a6, a7, a8, a9, a10⟩ := hord
  have h_ct_l : ct < l := Nat.lt_trans a1 a2
  have h_ct_c1 : ct < c1 := Nat.lt_trans h_ct_l a3
  have h_ct_rd : ct < rd := Nat.lt_trans h_ct_c1 a4
  have h_ct_c2 : ct < c2 := Nat.lt_trans h_ct_rd a5
  have h_ct_fs : ct < fs := Nat.lt_trans h_ct_c2 a6
  have h_ct_fdd : ct < fdd := Nat.lt_trans h_ct_fs a7
  have h_ct_dl : ct < dl := Nat.lt_trans h_ct_fdd a8
  have h_ct_lx : ct < lx := Nat.lt_trans h_ct_dl a9
  have h_l_rd : l < rd := Nat.lt_trans a3 a4
  have h_l_c2 : l < c2 := Nat.lt_trans h_l_rd a5
  have h_l_fs : l < fs := Nat.lt_trans h_l_c2 a6
  have h_l_fdd : l < fdd := Nat.lt_trans h_l_fs a7
  have h_l_dl : l < dl := Nat.lt_trans h_l_fdd a8
  have h_l_lx : l < lx := Nat.lt_trans h_l_dl a9
  have g_dl_pb : dl < pb := Nat.lt_trans a9 a10
  have g_fdd_pb : fdd < pb := Nat.lt_trans a8 g_dl_pb
  have g_fs_pb : fs < pb := Nat.lt_trans a7 g_fdd_pb
  have g_fs_dl : fs < dl := Nat.lt_trans a7 a8
  have g_c2_pb : c2 < pb := Nat.lt_trans a6 g_fs_pb
  have g_c2_dl : c2 < dl := Nat.lt_trans a6 g_fs_dl
  have g_rd_pb : rd < pb := Nat.lt_trans a5 g_c2_pb
  have g_rd_dl : rd < dl := Nat.lt_trans a5 g_c2_dl
  have g_c1_pb : c1 < pb := Nat.lt_trans a4 g_rd_pb
  have g_c1_dl : c1 < dl := Nat.lt_trans a4 g_rd_dl
  have g_l_pb : l < pb := Nat.lt_trans a3 g_c1_pb
  have g_ca_pb : ca < pb := Nat.lt_trans a2 g_l_pb
  have g_l_dl : l < dl := Nat.lt_trans a3 g_c1_dl
  have g_ca_dl : ca < dl := Nat.lt_trans a2 g_l_dl
  have g_ct_pb : ct < pb := Nat.lt_trans a1 g_ca_pb
  have g_ct_dl : ct < dl := Nat.lt_trans a1 g_ca_dl
  have g_ct_l : ct < l := Nat.lt_trans a1 a2
  intro q hq
  rcases List.mem_cons.mp hq with rfl | hq
  · exact ⟨Or.inl (Nat.le_of_lt h_ct_lx), Nat.ne_of_lt a10, Nat.ne_of_gt a9, Nat.ne_of_gt h_l_lx⟩
  rcases List.mem_cons.mp hq with rfl | hq
  · exact ⟨Or.inl (Nat.le_of_lt h_ct_fdd), Nat.ne_of_lt g_fdd_pb, Nat.ne_of_lt a8, Nat.ne_of_gt h_l_fdd⟩
  rcases List.mem_cons.mp hq with rfl | hq
  · exact ⟨Or.inl (Nat.le_of_lt h_ct_fs), Nat.ne_of_lt g_fs_pb, Nat.ne_of_lt g_fs_dl, Nat.ne_of_gt h_l_fs⟩
  rcases List.mem_cons.mp hq with rfl | hq
  · exact ⟨Or.inl (Nat.le_of_lt h_ct_c2), Nat.ne_of_lt g_c2_pb, Nat.ne_of_lt g_c2_dl, Nat.ne_of_gt h_l_c2⟩
  rcases List.mem_cons.mp hq with rfl | hq
  · exact ⟨Or.inl (Nat.le_of_lt h_ct_rd), Nat.ne_of_lt g_rd_pb, Nat.ne_of_lt g_rd_dl, Nat.ne_of_gt h_l_rd⟩
  rcases List.mem_cons.mp hq with rfl | hq
  · exact ⟨Or.inl (Nat.le_of_lt h_ct_c1), Nat.ne_of_lt g_c1_pb, Nat.ne_of_lt g_c1_dl, Nat.ne_of_gt a3⟩
  rcases List.mem_cons.mp hq with rfl | hq
  · exact ⟨Or.inl (Nat.le_of_lt a1), Nat.ne_of_lt g_ca_pb, Nat.ne_of_lt g_ca_dl, Nat.ne_of_lt a2⟩
  rcases List.mem_cons.mp hq with rfl | hq
  · exact ⟨Or.inl (Nat.le_refl ct), Nat.ne_of_lt g_ct_pb, Nat.ne_of_lt g_ct_dl, Nat.ne_of_lt g_ct_l⟩
  rcases List.mem_cons.mp hq with rfl | hq
  · exact ⟨Or.inr rfl, Nat.ne_of_lt (Nat.lt_trans h107 g_ct_pb), Nat.ne_of_lt (Nat.lt_trans h107 g_ct_dl), Nat.ne_of_lt (Nat.lt_trans h107 g_ct_l)⟩
  exact nomatch hq
theorem ordl {pb lx dl fdd fs c2 rd c1 l ca ct : Nat} (hord : ct < ca ∧ ca < l ∧ l < c1 ∧ c1 < rd ∧ rd < c2 ∧ c2 < fs ∧ fs < fdd ∧ fdd < dl ∧ dl < lx ∧ lx < pb) : l < dl ∧ dl < pb ∧ l < pb := by
  obtain ⟨_, _, a3, a4, a5, a6, a7, a8, a9, a10⟩ := hord
  have h := Nat.lt_trans a3 (Nat.lt_trans a4 (Nat.lt_trans a5 (Nat.lt_trans a6 (Nat.lt_trans a7 a8))))
  have h2 := Nat.lt_trans a9 a10
  exact ⟨h, h2, Nat.lt_trans h h2⟩
theorem ord3 {pb lx dl fdd fs c2 rd c1 l ca ct : Nat} (hord : ct < ca ∧ ca < l ∧ l < c1 ∧ c1 < rd ∧ rd < c2 ∧ c2 < fs ∧ fs < fdd ∧ fdd < dl ∧ dl < lx ∧ lx < pb) : ct < dl ∧ ct < l ∧ ct < pb := by
  obtain ⟨a1, a2, a3, a4, a5, a6, a7, a8, a9, a10⟩ := hord
  have g_fs_dl : fs < dl := Nat.lt_trans a7 a8
  have g_c2_dl : c2 < dl := Nat.lt_trans a6 g_fs_dl
  have g_rd_dl : rd < dl := Nat.lt_trans a5 g_c2_dl
  have g_c1_dl : c1 < dl := Nat.lt_trans a4 g_rd_dl
  have g_l_dl : l < dl := Nat.lt_trans a3 g_c1_dl
  have g_ca_dl : ca < dl := Nat.lt_trans a2 g_l_dl
  have g_ct_dl : ct < dl := Nat.lt_trans a1 g_ca_dl
  have g_ct_l : ct < l := Nat.lt_trans a1 a2
  have g_dl_pb : dl < pb := Nat.lt_trans a9 a10
  have g_fdd_pb : fdd < pb := Nat.lt_trans a8 g_dl_pb
  have g_fs_pb : fs < pb := Nat.lt_trans a7 g_fdd_pb
  have g_c2_pb : c2 < pb := Nat.lt_trans a6 g_fs_pb
  have g_rd_pb : rd < pb := Nat.lt_trans a5 g_c2_pb
  have g_c1_pb : c1 < pb := Nat.lt_trans a4 g_rd_pb
  have g_l_pb : l < pb := Nat.lt_trans a3 g_c1_pb
  have g_ca_pb : ca < pb := Nat.lt_trans a2 g_l_pb
  have g_ct_pb : ct < pb := Nat.lt_trans a1 g_ca_pb
  exact ⟨g_ct_dl, g_ct_l, g_ct_pb⟩
theorem off_low {a ct L k : Nat} (h : ct ≤ a ∨ a = 107) (h3 : L + 1 + 1 + 1 + 1 + 1 + 1 < ct) (h107 : 107 < ct) (hk : 107 < k ∧ k ≤ L + 6) : a ≠ k := by omega
theorem mem_at {α : Type} {l : List α} (ix : List Nat) (q : α) (hq : q ∈ ix.filterMap (fun i => l[i]?)) : q ∈ l := by
  obtain ⟨i, _, e⟩ := List.mem_filterMap.mp hq
  exact List.mem_of_getElem? e
theorem News.at_ {h₀ h : Heap} {L : Addr} {l : List (Addr × Obj)} (N : News h₀ L h l) (ix : List Nat) (n : Nat) : News h₀ L h (ix.filterMap (fun i => l[i]?) ++ l.drop n) := fun q hq => N q (by
  rcases List.mem_append.mp hq with e | e
  · obtain ⟨i, _, e⟩ := List.mem_filterMap.mp e
    exact List.mem_of_getElem? e
  · exact List.mem_of_mem_drop e)
theorem News.rot {h₀ h : Heap} {L : Addr} {a : Addr × Obj} {T l : List (Addr × Obj)} (N : News h₀ L h (a :: (T ++ l))) : News h₀ L h (a :: (l ++ T)) := fun q hq => N q (by
  rcases List.mem_cons.mp hq with rfl | hq
  · exact .head _
  · rcases List.mem_append.mp hq with e | e
    · exact .tail _ (List.mem_append.mpr (.inr e))
    · exact .tail _ (List.mem_append.mpr (.inl e)))
/-- the law's end -/
inductive Done (s1 : Shared) (g : Heap) (L : Addr) : Flow → Shared → Prop
  | mk (h' : Heap) (tk : Nat) (ps : Array Value) (mm : Str → Option Value) (news : List (Addr × Obj)) : Fr g L h' mm → News g L h' ((107, tabObj ps) :: news) → Done s1 g L (.ret (.bool true)) { s1 with heap := h', toks := tk }
end

section
local macro_rules | `(tactic| walk_at "mine pad") => `(tactic| skip)
theorem ints5 {t1 t2 t3 t4 t5 : Tok} : IntsAre [.int 355 t1, .int 315 t2, .int 788 t3, .int 171 t4, .int 391 t5] [355, 315, 788, 171, 391] := .cons _ _ (.cons _ _ (.cons _ _ (.cons _ _ (.cons _ _ .nil))))
section
variable {prog : Program} {w : World} {A : Around} {E : Value → Shared → Prop} {s : Shared} {h₀ : Heap} {L l : Addr} {m : Str → Option Value} {news : List (Addr × Obj)} {value slice : PySem.Expr} {vs : List Value} {ns : List Int} {vl vu : Value} {lo hi : Option Int} {Q : Value → Shared → Prop}
/-- a slice of a list that no name holds -/
theorem slice_tmp {ms : List Int} (F : Fr h₀ L s.heap m) (N : News h₀ L s.heap news) (hl : s.heap.IsList l vs.toArray) (pl : IsPart vl lo) (pu : IsPart vu hi) (hm : IntsAre (slicePick vs.toArray lo hi none).toList ms)
    (h : ∀ D ws h', Fr h₀ L h' m → News h₀ L h' ((D, listOf (List.toArray ws) 0) :: news) → (∀ p ∈ news, p.1 < D) → IntsAre ws ms → Q (.ref D) { s with heap := h' })
    (hs : subscripted slice false (.ref l) (.ref s.heap.objs.size) = operate [.ref s.heap.objs.size, .ref l] (getItem (.ref l) (.ref s.heap.objs.size))) (hz : vs.toArray.size ≤ sizeLine) :
    wpAny (model prog w) A (subscriptTail value slice (.ref l) (.ref s.heap.objs.size)) Q E { s with heap := s.heap.push { cls := .type "slice", data := .fields #[vl, vu, .none] } } := by
  have hT : ({ s with heap := s.heap.push { cls := .type "slice", data := .fields #[vl, vu, .none] } } : Shared).TypeIs (.ref l) "list" := (hl.push _).typeIs
  refine tail_any hT slot_list_getitem.lookup (wpAny_getItem_list_slice (hl.push _) (Heap.IsSliceOf.new ..) pl pu .none (by simp) ?_ hz) hs
  have N1 := News.push (F.push { cls := .type "slice", data := .fields #[vl, vu, .none] }) (N.grown fun _ _ e => Heap.get?_push_of_some _ e) { cls := .type "list", data := .seq (slicePick vs.toArray lo hi none) }
  rw [Heap.size_push] at N1
  show Q (.ref (s.heap.push _).objs.size) _
  rw [Heap.size_push]
  refine h _ (slicePick vs.toArray lo hi none).toList _ ((F.push _).push _) ?_ (fun p hp => Nat.lt_succ_of_lt (Heap.lt_size (N p hp).1)) hm
  rw [Array.toArray_toList]; exact N1
end
theorem ints_ex : ∀ {vs : List Value} {ns : List Int}, IntsAre vs ns → ∃ ds : List (Int × Tok), vs = ds.map (fun x => Value.int x.1 x.2) ∧ ds.map Prod.fst = ns
  | _, _, .nil => ⟨[], rfl, rfl⟩
  | _, _, .cons n t r => by
    obtain ⟨ds, e1, e2⟩ := ints_ex r
    exact ⟨(n, t) :: ds, by rw [e1]; rfl, by rw [← e2]; rfl⟩
theorem drawn_is {ns : List Int} {vs : List Value} (h : IntsAre vs ((ns.take 5).map (fun k' => k'.fmod 1029) ++ ([355, 315, 788, 171, 391] : List Int).drop (((ns.take 5).length : Nat) : Int).toNat)) :
    ∃ ds : List (Int × Tok), vs = ds.map (fun x => Value.int x.1 x.2) ∧ ds.length = 5 ∧ ∀ x ∈ ds, 0 ≤ x.1 ∧ x.1 < 1029 := by
  obtain ⟨ds, e1, e2⟩ := ints_ex h
  refine ⟨ds, e1, ?_, ?_⟩
  · have q := congrArg List.length e2
    simp only [List.length_map, List.length_append, List.length_take, List.length_drop, List.length_cons, List.length_nil, Int.toNat_natCast] at q
    omega
  · intro x hx
    have q : x.1 ∈ ds.map Prod.fst := List.mem_map.mpr ⟨x, hx, rfl⟩
    rw [e2] at q
    rcases List.mem_append.mp q with q | q
    · obtain ⟨k, _, e⟩ := List.mem_map.mp q
      rw [← e]
      exact ⟨Int.fmod_nonneg_of_pos _ (by decide), Int.fmod_lt_of_pos _ (by decide)⟩
    · have q2 := List.mem_of_mem_drop q
      simp only [List.mem_cons, List.not_mem_nil, or_false] at q2
      omega
local macro_rules | `(tactic| k_mem) => `(tactic| first | exact List.Mem.head _ | exact List.Mem.tail _ (List.Mem.head _) | ((repeat (first | exact List.Mem.head _ | assumption | apply List.Mem.tail)); done))
theorem spelled_d (w : World) (mean : ExcName → Option Value) (mg mb : Str → Option Value) (d : Int) (t u : Tok) (news : List (Addr × Obj)) (hw : 0 ≤ d.fdiv 343 ∧ d.fdiv 343 < 3) :
   Con w mean mg mb 117 news [.str (txt (wd d)) t, .int (d.fdiv 343) u] 3 (fun news' v => news' = news ∧ ∃ t', v = .str ⟨(spd d).toArray⟩ t') :=
  spelled_con w mean mg mb _ _ _ (d.fdiv 343) t u news hw
local macro_rules | `(tactic| k_all) => `(tactic| assumption)
local macro_rules | `(tactic| walk_at "CompSrcT") => `(tactic| (k_here; k_dflt (refine LCt.CompSrcT.ledger (by rfl) (by k_asm) (by k_asm) (by k_mem) ?ksz ?_; (case ksz => simp only [refs, List.size_toArray, List.length_map, sizeLine]; omega); intro g')))
section
variable {L D n : Nat}
theorem hi0 (h : L + 6 < D) : D ≠ L := by omega
theorem lo0 (h : L + 6 < D) : L ≠ D := by omega
theorem hi1 (h : L + 6 < D) : D ≠ L + 1 := by omega
theorem lo1 (h : L + 6 < D) : L + 1 ≠ D := by omega
theorem hi2 (h : L + 6 < D) : D ≠ L + 1 + 1 := by omega
theorem lo2 (h : L + 6 < D) : L + 1 + 1 ≠ D := by omega
theorem hi3 (h : L + 6 < D) : D ≠ L + 1 + 1 + 1 := by omega
theorem lo3 (h : L + 6 < D) : L + 1 + 1 + 1 ≠ D := by omega
theorem hi4 (h : L + 6 < D) : D ≠ L + 1 + 1 + 1 + 1 := by omega
theorem lo4 (h : L + 6 < D) : L + 1 + 1 + 1 + 1 ≠ D := by omega
theorem hi5 (h : L + 6 < D) : D ≠ L + 1 + 1 + 1 + 1 + 1 := by omega
theorem lo5 (h : L + 6 < D) : L + 1 + 1 + 1 + 1 + 1 ≠ D := by omega
theorem hi6 (h : L + 6 < D) : D ≠ L + 1 + 1 + 1 + 1 + 1 + 1 := by omega
theorem lo6 (h : L + 6 < D) : L + 1 + 1 + 1 + 1 + 1 + 1 ≠ D := by omega
theorem df1 : n + 1 ≠ n := by omega
theorem dg1 : n ≠ n + 1 := by omega
theorem df2 : n + 1 + 1 ≠ n := by omega
theorem dg2 : n ≠ n + 1 + 1 := by omega
theorem df3 : n + 1 + 1 + 1 ≠ n := by omega
theorem dg3 : n ≠ n + 1 + 1 + 1 := by omega
theorem df4 : n + 1 + 1 + 1 + 1 ≠ n := by omega
theorem dg4 : n ≠ n + 1 + 1 + 1 + 1 := by omega
theorem df5 : n + 1 + 1 + 1 + 1 + 1 ≠ n := by omega
theorem dg5 : n ≠ n + 1 + 1 + 1 + 1 + 1 := by omega
theorem df6 : n + 1 + 1 + 1 + 1 + 1 + 1 ≠ n := by omega
theorem dg6 : n ≠ n + 1 + 1 + 1 + 1 + 1 + 1 := by omega
end
local macro_rules | `(tactic| k_ne) => `(tactic| (refine neN ?_; (try dsimp only); first | k_extra "ne" | omega))
theorem law_t : PySem.Challenge.rw_pg0139_01.Holds := hd (by
  k_with_none
  k_with "lt6" => first | with_reducible assumption | exact And.left (by with_reducible assumption) | exact And.left (And.right (by with_reducible assumption)) | exact And.left (And.right (And.right (by with_reducible assumption))) | exact And.right (And.right (by with_reducible assumption)) | exact And.right (by with_reducible assumption) | exact And.left (And.right (And.right (And.right (by with_reducible assumption))))
  k_with "ne" => first | with_reducible assumption | exact Ne.symm (by with_reducible assumption) | exact df1 | exact df2 | exact df3 | exact df4 | exact df5 | exact df6 | exact dg1 | exact dg2 | exact dg3 | exact dg4 | exact dg5 | exact dg6 | exact Nat.ne_of_gt (by k_extra "lt6") | exact Nat.ne_of_lt (by k_extra "lt6") | exact hi0 (by k_extra "lt6") | exact hi1 (by k_extra "lt6") | exact hi2 (by k_extra "lt6") | exact hi3 (by k_extra "lt6") | exact hi4 (by k_extra "lt6") | exact hi5 (by k_extra "lt6") | exact hi6 (by k_extra "lt6") | exact lo0 (by k_extra "lt6") | exact lo1 (by k_extra "lt6") | exact lo2 (by k_extra "lt6") | exact lo3 (by k_extra "lt6") | exact lo4 (by k_extra "lt6") | exact lo5 (by k_extra "lt6") | exact lo6 (by k_extra "lt6")
  k_with "mine use" => ((case k1 => first | k_asm | ktn_no "the frames below"); (case k2 => first | k_asm | ktn_no "the frame"); (case k3 => first | k_asm | ktn_no "the written part"); (case k4 => first | k_asm | ktn_no "the ledger"); (case k5 => first | k_asm | ktn_no "the top"); (case kK => first | exact rfl | assumption | ktn_no "no def"); (case kd => first | ktr_room | ktn_no "the room"); (case ku => first | ktr_units | ktn_no "the units"))
  k_with "mine lt" => first | assumption | exact ktn_ltOf (by assumption) | exact ktn_ltOf (And.right (by assumption)) | exact ktn_ltOf (And.right (And.right (by assumption))) | exact ktn_ltOf (And.right (And.right (And.right (by assumption))))
  k_with "callWith ref" => (k_here; k_dflt (refine' callWith_K0 ?k1 ?k2 ?_; (case k1 => k_in); (case k2 => k_is); k_whole))
  k_with "execs cons" => (refine execs_cut ?_; intro _ _)
  k_with "callWith ref" => (k_here; k_dflt (refine' callWith_K ?k1 ?k2 ?_; (case k1 => k_asm); (case k2 => k_is); k_whole))
  k_with "eval Name" => (k_here; k_dflt (refine' nameX_L ?q8f ?q8v ?_ ?q8a ?q8b; (case q8f => k_asm); (case q8a => rfl); (case q8b => rfl); (case q8v => rfl); k_whole))
  k_with "subscriptTail" => (k_here; (with_reducible show wpAny _ _ (subscriptTail (PySem.Expr.List _ _) (PySem.Expr.Slice (some _) none none _) (Value.ref _) (Value.ref _)) _ _ _); k_dflt (refine' slice_tmp (vs := [.int 355 _, .int 315 _, .int 788 _, .int 171 _, .int 391 _]) ?q8F ?q8N ?q8l ?q8p ?q8q ?q8m ?_ ?q8s ?q8z; (case q8F => k_asm); (case q8N => k_asm); (case q8l => exact News.isList (by k_asm) (by k_mem)); (case q8p => kmk_part); (case q8q => kmk_part); (case q8m => exact kmk_from ints5 (by omega)); (case q8s => with_unfolding_all rfl); (case q8z => exact Nat.le_of_ble_eq_true rfl)); intro D' ws' h' F' N' l1 hI'; (try k_lt l1))
  k_with "subscriptTail List Slice ref ref" => (k_here; (with_reducible show wpAny _ _ (subscriptTail (PySem.Expr.List _ _) (PySem.Expr.Slice (some _) none none _) (Value.ref _) (Value.ref _)) _ _ _); k_dflt (refine' slice_tmp (vs := [.int 355 _, .int 315 _, .int 788 _, .int 171 _, .int 391 _]) ?q8F ?q8N ?q8l ?q8p ?q8q ?q8m ?_ ?q8s ?q8z; (case q8F => k_asm); (case q8N => k_asm); (case q8l => exact News.isList (by k_asm) (by k_mem)); (case q8p => kmk_part); (case q8q => kmk_part); (case q8m => exact kmk_from ints5 (by omega)); (case q8s => with_unfolding_all rfl); (case q8z => exact Nat.le_of_ble_eq_true rfl)); intro D' ws' h' F' N' l1 hI'; (try k_lt l1))
  k_with "mine mem" => (repeat (first | exact List.Mem.head _ | apply List.Mem.tail))
  k_with "mine comp" => (k_here; k_dflt (refine LCg.ListComp_U (F₀ := by k_asm) (by with_unfolding_all rfl) (by decide) (by rfl) (by decide) (by rfl) ?_))
  k_with "mine src" => (k_here; k_dflt (refine LCg.CompSrc.ledger (by rfl) (by k_asm) (by k_asm) (by k_mem) (by first | size_fits | exact Nat.le_of_ble_eq_true rfl) ?_; intro g'; lcg_lit))
  k_with "mine steps" => repeat' ((fail_if_success (with_reducible show wpAny _ _ (eval (Expr.ListComp _ _ _ _) _) _ _ _)); (fail_if_success (with_reducible show LCg.CompSrc _ _ _ _ _ _ _ _ _ _ _ _ _ _)); (fail_if_success (with_reducible show LCp.SrcLP _ _ _ _ _ _ _ _ _ _ _ _ _ _ _)); (fail_if_success (with_reducible show wpAny _ _ (call (Value.builtin "str.join") _) _ _ _)); (fail_if_success (with_reducible show wpAny _ _ (call (Value.ref 112) _) _ _ _)); (fail_if_success (with_reducible show wpAny _ _ (call (Value.ref 91) _) _ _ _)); (fail_if_success (with_reducible show wpAny _ _ (call (Value.ref 98) _) _ _ _)); (fail_if_success (with_reducible show wpAny _ _ (call (Value.ref 162) _) _ _ _)); (fail_if_success (with_reducible show wpAny _ _ (call (Value.ref 157) _) _ _ _)); (fail_if_success (with_reducible show wpAny _ _ (exec (Stmt.For _ _ _ _ _) _) _ _ _)); (fail_if_success (with_reducible show codeAny _ _ (Code.forLoop _ _ _ _ _) _ _)); first | (k_unfold; (try dsimp only)) | (k_end; wrow_close) | k_extra "own" | walk1 | (dsimp only; first | k_extra "own" | walk1) | (leave1; walk_say "STEP leave1"; try dsimp only) | fail "no step")
  k_with "mine stepsR" => repeat' ((fail_if_success (with_reducible show wpAny _ _ (call (Value.type "range") _) _ _ _)); (fail_if_success (with_reducible show wpAny _ _ (eval (Expr.ListComp _ _ _ _) _) _ _ _)); (fail_if_success (with_reducible show LCg.CompSrc _ _ _ _ _ _ _ _ _ _ _ _ _ _)); (fail_if_success (with_reducible show LCp.SrcLP _ _ _ _ _ _ _ _ _ _ _ _ _ _ _)); (fail_if_success (with_reducible show wpAny _ _ (call (Value.builtin "str.join") _) _ _ _)); (fail_if_success (with_reducible show wpAny _ _ (call (Value.ref 112) _) _ _ _)); (fail_if_success (with_reducible show wpAny _ _ (call (Value.ref 91) _) _ _ _)); (fail_if_success (with_reducible show wpAny _ _ (call (Value.ref 98) _) _ _ _)); (fail_if_success (with_reducible show wpAny _ _ (call (Value.ref 162) _) _ _ _)); (fail_if_success (with_reducible show wpAny _ _ (call (Value.ref 157) _) _ _ _)); (fail_if_success (with_reducible show wpAny _ _ (exec (Stmt.For _ _ _ _ _) _) _ _ _)); (fail_if_success (with_reducible show codeAny _ _ (Code.forLoop _ _ _ _ _) _ _)); first | (k_unfold; (try dsimp only)) | (k_end; wrow_close) | k_extra "own" | walk1 | (dsimp only; first | k_extra "own" | walk1) | (leave1; walk_say "STEP leave1"; try dsimp only) | fail "no step")
  k_with "mine stepsC" => repeat' ((fail_if_success (with_reducible show wpAny _ _ (exec (Stmt.Assign _ (Expr.ListComp _ _ _ _) _) _) _ _ _)); (fail_if_success (with_reducible show wpAny _ _ (eval (Expr.ListComp _ _ _ _) _) _ _ _)); (fail_if_success (with_reducible show LCg.CompSrc _ _ _ _ _ _ _ _ _ _ _ _ _ _)); (fail_if_success (with_reducible show LCp.SrcLP _ _ _ _ _ _ _ _ _ _ _ _ _ _ _)); (fail_if_success (with_reducible show wpAny _ _ (call (Value.builtin "str.join") _) _ _ _)); (fail_if_success (with_reducible show wpAny _ _ (call (Value.ref 112) _) _ _ _)); (fail_if_success (with_reducible show wpAny _ _ (call (Value.ref 91) _) _ _ _)); (fail_if_success (with_reducible show wpAny _ _ (call (Value.ref 98) _) _ _ _)); (fail_if_success (with_reducible show wpAny _ _ (call (Value.ref 162) _) _ _ _)); (fail_if_success (with_reducible show wpAny _ _ (call (Value.ref 157) _) _ _ _)); (fail_if_success (with_reducible show wpAny _ _ (exec (Stmt.For _ _ _ _ _) _) _ _ _)); (fail_if_success (with_reducible show codeAny _ _ (Code.forLoop _ _ _ _ _) _ _)); first | (k_unfold; (try dsimp only)) | (k_end; wrow_close) | k_extra "own" | walk1 | (dsimp only; first | k_extra "own" | walk1) | (leave1; walk_say "STEP leave1"; try dsimp only) | fail "no step")
  k_with "mine stepsA" => repeat' ((fail_if_success (with_reducible show wpAny _ _ (subscriptTail (PySem.Expr.List _ _) _ _ _) _ _ _)); first | (k_unfold; (try dsimp only)) | k_extra "own" | walk1 | (dsimp only; first | k_extra "own" | walk1))
  k_with "subscriptTail" => (k_here; (with_reducible show wpAny _ _ (subscriptTail _ _ (Value.ref _) (Value.int _ _)) _ _ _); k_dflt (first | (refine' strs_itemF (f := fun x => txt (wd x.1)) ?k1 ?k2 ?k3 ?k4 ?k5 ?k6 ?_ ?k7; (case k1 => assumption); (case k2 => k_asm); (case k3 => k_mem); (case k4 => omega); (case k5 => omega); (case k6 => assumption); (case k7 => with_unfolding_all rfl); intro t') | (refine' ints_itemF ?k2 ?k3 ?k4 ?k5 ?k6 ?_ ?k7; (case k2 => k_asm); (case k3 => k_mem); (case k4 => omega); (case k5 => omega); (case k6 => assumption); (case k7 => with_unfolding_all rfl))))
  k_with "call ref" => (k_here; (with_reducible show wpAny _ _ (call (Value.ref 117) _) _ _ _); k_dflt (refine' (spelled_d _ _ _ _ _ _ _ _ ?ka) _ _ _ _ _ _ _ _ _ _ _ _ _ _ _ _ _ _ _ ?k1 ?k2 ?k3 ?k4 ?k5 ?kK ?kd ?ku ?_; k_extra "mine use"; (case ka => assumption)); intro v' news' h' tk' F' N' hr'; obtain ⟨hn', t1', hv'⟩ := hr'; subst hv'; subst hn')
  k_with "mine useC" => ((case k0 => assumption); (case k1 => first | k_asm | ktn_no "the frames below"); (case k2 => first | k_asm | ktn_no "the frame"); (case k3 => first | k_asm | ktn_no "the written part"); (case k4 => first | k_asm | ktn_no "the ledger"); (case k5 => first | k_asm | ktn_no "the top"); (case kK => first | exact rfl | assumption | ktn_no "no def"); (case kd => first | ktr_room | ktn_no "the room"); (case ku => first | ktr_units | ktn_no "the units"))
  k_with "compareOp NotEq int int" => (k_here; (with_reducible show wpAny _ _ (compareOp _ (Value.int _ _) (Value.int _ _)) _ _ _); k_dflt (refine' ne_same ?k1 ?_; (case k1 => omega); k_whole))
  k_with "pyIter ref" => (k_here; k_dflt (refine' iter_li (its := strsL _) ?k1 ?k2 ?k3 ?_; (case k1 => k_asm); (case k2 => k_asm); (case k3 => k_mem)); intro _ _ _ _ _ _ _)
  k_with "call ref" => (k_here; (with_reducible show wpAny _ _ (call (Value.ref 131) _) _ _ _); k_dflt (refine' (read_con _ _ _ _ _ _ _ _ _ ?ka ?kb ?kc) _ _ _ _ _ _ _ _ _ _ _ _ _ _ _ _ _ _ _ ?k1 ?k2 ?k3 ?k4 ?k5 ?kK ?kd ?ku ?_; k_extra "mine use"; (case ka => assumption); (case kb => assumption); (case kc => assumption)); intro v' news' h' tk' F' N' hr'; obtain ⟨D', t1', t2', hv', l1, hn'⟩ := hr'; subst hv'; subst hn'; (try k_lt l1))
  k_with "subscriptTail" => (k_here; (with_reducible show wpAny _ _ (subscriptTail _ _ (Value.str (W3 _ _ _) _) (Value.int _ _)) _ _ _); k_dflt (refine' sub_W3 ?k1 ?_ ?k2 ?k3; (case k1 => first | exact Or.inl ⟨rfl, rfl⟩ | exact Or.inr (Or.inl ⟨rfl, rfl⟩) | exact Or.inr (Or.inr ⟨rfl, rfl⟩)); (case k2 => with_unfolding_all rfl); (case k3 => intro _; with_unfolding_all rfl); k_whole))
  k_with "call type:int" => (k_here; (with_reducible show wpAny _ _ (call _ [Value.str _ _]) _ _ _); k_dflt (refine' int_of_dg ?k1 ?_; (case k1 => assumption); k_whole))
  k_with "subscriptTail" => (k_here; (with_reducible show wpAny _ _ (subscriptTail _ _ (Value.ref _) (Value.int ((_ : Nat) : Int) _)) _ _ _); k_dflt (refine' refs_itemE (xs := _ ++ _) ?k2 ?k3 ?k4 ?k5 ?k6 ?_ ?k7; (case k2 => k_asm); (case k3 => k_mem); (case k4 => omega); (case k5 => omega); (case k6 => assumption); (case k7 => with_unfolding_all rfl)))
  k_with "mine stepsN" => repeat' ((fail_if_success (with_reducible show wpAny _ _ (call (Value.ref 138) _) _ _ _)); (fail_if_success (with_reducible show wpAny _ _ (call (Value.ref 169) _) _ _ _)); (fail_if_success (with_reducible show wpAny _ _ (call (Value.ref 145) _) _ _ _)); (fail_if_success (with_reducible show wpAny _ _ (exec (Stmt.Assign _ (Expr.ListComp _ _ _ _) _) _) _ _ _)); (fail_if_success (with_reducible show wpAny _ _ (eval (Expr.ListComp _ _ _ _) _) _ _ _)); (fail_if_success (with_reducible show LCg.CompSrc _ _ _ _ _ _ _ _ _ _ _ _ _ _)); (fail_if_success (with_reducible show LCp.SrcLP _ _ _ _ _ _ _ _ _ _ _ _ _ _ _)); (fail_if_success (with_reducible show wpAny _ _ (call (Value.builtin "str.join") _) _ _ _)); (fail_if_success (with_reducible show wpAny _ _ (call (Value.ref 112) _) _ _ _)); (fail_if_success (with_reducible show wpAny _ _ (call (Value.ref 91) _) _ _ _)); (fail_if_success (with_reducible show wpAny _ _ (call (Value.ref 98) _) _ _ _)); (fail_if_success (with_reducible show wpAny _ _ (call (Value.ref 162) _) _ _ _)); (fail_if_success (with_reducible show wpAny _ _ (call (Value.ref 157) _) _ _ _)); (fail_if_success (with_reducible show wpAny _ _ (exec (Stmt.For _ _ _ _ _) _) _ _ _)); (fail_if_success (with_reducible show codeAny _ _ (Code.forLoop _ _ _ _ _) _ _)); first | (k_unfold; (try dsimp only)) | (k_end; wrow_close) | k_extra "own" | walk1 | (dsimp only; first | k_extra "own" | walk1) | (leave1; walk_say "STEP leave1"; try dsimp only) | fail "no step")
  k_with "compareOp NotEq str str" => (k_here; (with_reducible show wpAny _ _ (compareOp _ (Value.str ⟨#[]⟩ _) (Value.str (Str.ofString "") _)) _ _ _); k_dflt (refine' ne_no ?_))
  k_with "mine stepsQ" => repeat' ((fail_if_success (with_reducible show LCt.CompRestT _ _ _ _ _ _ _ _ _ _ _ _ _ _ _ _ _ _ _ _)); first | (k_unfold; (try dsimp only)) | (k_end; wrow_close) | k_extra "own" | walk1 | (dsimp only; first | k_extra "own" | walk1) | (leave1; walk_say "STEP leave1"; try dsimp only) | fail "no step")
  k_with "compareOp NotEq int int" => (k_here; (with_reducible show wpAny _ _ (compareOp _ (Value.int _ _) (Value.int 0 _)) _ _ _); k_dflt (refine' ne_diff ?k1 ?_; (case k1 => assumption); k_whole))
  k_with "compareOp NotEq int int" => (k_here; (with_reducible show wpAny _ _ (compareOp _ (Value.int _ _) (Value.int _ _)) _ _ _); k_dflt (refine' ne_same ?k1 ?_; (case k1 => first | exact rfl | assumption); k_whole))
  k_with "mine stepsZ" => repeat' (first | (k_unfold; (try dsimp only)) | k_extra "own" | walk1 | (dsimp only; first | k_extra "own" | walk1) | (leave1; walk_say "STEP leave1"; try dsimp only) | fail "no step")
  k_with "mine stepsE" => repeat' ((fail_if_success (with_reducible show ∃ _, _)); first | (k_unfold; (try dsimp only)) | k_extra "own" | walk1 | (dsimp only; first | k_extra "own" | walk1) | (leave1; walk_say "STEP leave1"; try dsimp only) | fail "no step")
  k_with "mine all" => ((repeat (refine List.forall_mem_cons.mpr ⟨by k_extra "mine mem", ?_⟩)); exact fun _ hq => nomatch hq)
  k_with "own" => first | (with_reducible k_extra "compareOp NotEq str str") | ((with_reducible show wpAny _ _ (call (Value.type "int") _) _ _ _); with_reducible k_extra "call type:int") | ((with_reducible show wpAny _ _ (pyIter (Value.ref _)) _ _ _); with_reducible k_extra "pyIter ref") | (with_reducible k_extra "compareOp NotEq int int") | (with_reducible k_extra "call ref") | (with_reducible k_extra "subscriptTail List Slice ref ref") | (with_reducible k_extra "subscriptTail") | ((with_reducible show wpAny _ _ (eval (Expr.Name _ _) (envX _ _ _ _ _ _)) _ _ _); with_reducible k_extra "eval Name") | ((with_reducible show wpAny _ _ (execs (_ :: _) _) _ _ _); with_reducible k_extra "execs cons") | ((with_reducible show wpAny _ _ (callWith _ (Value.ref _) _ _ _) _ _ _); with_reducible k_extra "callWith ref")
  k_go0
  all_goals (try k_fold)
  rename Fr _ _ _ _ => F0
  rename News _ _ _ _ => N0
  rename CodeHd _ _ _ => HC0
  rename (Mine.hd.heap_1 _).In (ghostOf _ _) => X0
  rename Top topProg _ _ _ _ _ => T0
  rename Below _ _ _ _ => B0
  rename Heap.IsList (ghostOf _ _) _ _ => S0
  rename IntsAre _ _ => I0
  rename Shared => s1
  rename World => w9
  rename 107 < _ => l0
  refine wpAny_mono (Q := Done s1 (ghostOf s1.heap [(111, 107)]) s1.heap.objs.size) (E := fun _ _ => False) ?body ?post (fun _ _ h => h.elim)
  case post =>
    rintro f s' ⟨h', tk, ps, mm, news, F1, N1⟩
    dsimp only
    refine ⟨?_, ?_⟩
    · wrow_close
    · exact ⟨GrownAt.of N1 (.head _), trivial⟩
  case body =>
    (try (rename Ground _ _ _ _ _ _ _ _ _ => z; clear z))
    (try (rename Hook.says _ _ _ => z; clear z))
    (try (rename Heap.CodeRec _ _ _ => z; clear z))
    (try (rename Heap.get? _ _ = _ => z; clear z))
    (try (rename Flt.MathXP _ _ _ => z; clear z))
    (try (rename LooseAre _ _ _ => z; clear z))
    (try (rename Tables _ _ _ _ => z; clear z))
    (try (rename TopE _ _ _ _ => z; clear z))
    (try (rename TopW _ _ _ => z; clear z))
    (try (rename Top Mine.vw _ _ _ _ _ => z; clear z))
    (try (rename ReadsAll _ _ _ _ => z; clear z))
    (try (rename Well _ _ _ _ => z; clear z))
    (try (rename Reads _ _ _ _ => z; clear z))
    (try (rename ReadsAllW _ _ _ _ _ _ => z; clear z))
    (try (rename CellsAre _ _ _ => z; clear z))
    (try (rename Dflts _ _ _ _ _ _ => z; clear z))
    (try (rename Shape.has _ _ = _ => z; clear z))
    rename List Int => ns
    rename_i h1 tk1 oN oR oM oX oW oD0 eN eR eM eX eW eD0
    clear hT8 hT9
    (try (rename Heap.IsList s1.heap _ _ => z; clear z))
    generalize hgg : ghostOf s1.heap [(111, 107)] = g at *
    generalize hLL : s1.heap.objs.size = L at *
    clear hgg hLL
    k_extra "mine stepsA"
    k_extra "subscriptTail"
    walk1
    rename IntsAre _ (_ ++ _) => hI
    obtain ⟨ds, e, hdl, hdb⟩ := drawn_is hI
    subst e
    clear hI
    k_extra "mine steps"
    rename Fr _ _ _ _ => F1
    rename News _ _ _ _ => N1
    obtain ⟨mm, F2⟩ : ∃ mm, Fr g L _ mm := ⟨_, F1⟩
    obtain ⟨D, oD, N2, eD, lD⟩ : ∃ D oD, News g L _ [(D, listOf (intsA ds) 0), (L + 1 + 1 + 1 + 1 + 1 + 1, oN), (L + 1 + 1 + 1 + 1 + 1, oR), (L + 1 + 1 + 1 + 1, oM), (L + 1 + 1 + 1, oX), (L + 1 + 1, oW), (L + 1, oD), (107, tabObj #[])] ∧ oD.data = .cell (some (.ref D)) ∧ L + 6 < D := ⟨_, _, Mine.News.sub N1 (by k_extra "mine all"), by assumption, by omega⟩
    clear F1 N1 eD0
    k_extra "mine comp"
    k_extra "mine steps"
    refine LCg.CompSrc.ledger (by rfl) (by k_asm) (by k_asm) (by k_extra "mine mem") (by simp [intsA, hdl, sizeLine]) ?_
    intro g'
    refine CompRest.ind (fun i ys news1 => news1 = [(D, listOf (intsA ds) 0), (L + 1 + 1 + 1 + 1 + 1 + 1, oN), (L + 1 + 1 + 1 + 1 + 1, oR), (L + 1 + 1 + 1 + 1, oM), (L + 1 + 1 + 1, oX), (L + 1 + 1, oW), (L + 1, oD), (107, tabObj #[])] ∧ ∃ ws : List (Str × Tok), ys = ws.map (fun x => Value.str x.1 x.2) ∧ ws.map Prod.fst = (ds.take i).map fun x => txt (wd x.1)) ⟨rfl, [], rfl, rfl⟩ ?step ?fin
    case step =>
      -- [[
      intro i ys news1 v I oI C oC Da m₂ h tk E' hi hJ hv hC hx F3 N3 off ne
      obtain ⟨rfl, ws, rfl, hws⟩ := hJ
      have hi' : i < ds.length := by simpa [intsA] using hi
      have hv' : v = .int (ds[i]).1 (ds[i]).2 := by simpa [intsA, hi'] using hv.symm
      subst hv'
      have hb := hdb ds[i] (List.getElem_mem _)
      have hnext : (ds.take (i + 1)).map (fun x => txt (wd x.1)) = (ds.take i).map (fun x => txt (wd x.1)) ++ [txt (wd (ds[i]).1)] := by
        rw [List.take_succ_eq_append_getElem hi', List.map_append]; rfl
      generalize ds[i] = x at hx hb hnext
      dsimp only
      k_extra "mine steps"
      rw [word_txt]
      exact end_none (by k_asm) (by k_asm) (LCg.Off3.of off) (Or.inr ⟨_, by k_extra "mine mem", rfl, _, rfl⟩) ⟨rfl, ws ++ [(_, _)], by rw [List.map_append]; rfl, by rw [List.map_append, hws, hnext]; rfl⟩
      -- ]]
    case fin =>
      intro ys news1 hJ
      obtain ⟨rfl, ws, rfl, hws⟩ := hJ
      rw [List.take_of_length_le (by simp [intsA])] at hws
      intro Dw hw tkw F3 N3 o1
      simp only [LCg.Off1, and_true] at o1
      have oW0 := o1
      obtain ⟨w8, w7, w6, w5, w4, w3, w2, w1⟩ := o1
      clear F2 N2
      k_extra "mine steps"
      rename Fr _ _ _ _ => F4
      rename News _ _ _ _ => N4
      obtain ⟨mm4, F5⟩ : ∃ mm, Fr g L _ mm := ⟨_, F4⟩
      obtain ⟨oW2, nw, N5, eW2⟩ : ∃ oW2 nw, News g L _ [(Dw, listOf (strsL ws) nw), (D, listOf (intsA ds) 0), (L + 1 + 1 + 1 + 1 + 1 + 1, oN), (L + 1 + 1 + 1 + 1 + 1, oR), (L + 1 + 1 + 1 + 1, oM), (L + 1 + 1 + 1, oX), (L + 1 + 1, oW2), (L + 1, oD), (107, tabObj #[])] ∧ oW2.data = .cell (some (.ref Dw)) := ⟨_, _, Mine.News.sub N4 (by k_extra "mine all"), by assumption⟩
      clear F4 N4
      k_extra "mine comp"
      k_extra "mine steps"
      refine LCg.CompSrc.range (by rfl) (by k_asm) (by k_asm) (by assumption) (by first | decide | rfl) (by first | rfl | decide) (by first | size_fits | exact Nat.le_of_ble_eq_true rfl) ?_
      intro g2
      refine CompRest.ind (fun i ys news1 => news1 = [(Dw, listOf (strsL ws) nw), (D, listOf (intsA ds) 0), (L + 1 + 1 + 1 + 1 + 1 + 1, oN), (L + 1 + 1 + 1 + 1 + 1, oR), (L + 1 + 1 + 1 + 1, oM), (L + 1 + 1 + 1, oX), (L + 1 + 1, oW2), (L + 1, oD), (107, tabObj #[])] ∧ ∃ ts : List (Str × Tok), ys = ts.map (fun x => Value.str x.1 x.2) ∧ ts.map Prod.fst = (ds.take i).map fun x => (⟨(spd x.1).toArray⟩ : Str)) ⟨rfl, [], rfl, rfl⟩ ?step ?fin
      case step =>
        -- [[
        intro i ys news1 v I oI C oC Da m₂ h tk E' hi hJ hv hC hx F3 N3 off ne
        obtain ⟨rfl, ts, rfl, hts⟩ := hJ
        obtain ⟨tv, rfl⟩ := hv
        have hi' : i < ds.length := by rw [hdl]; exact hi
        have hb := hdb ds[i] (List.getElem_mem _)
        have hnext : (ds.take (i + 1)).map (fun x => (⟨(spd x.1).toArray⟩ : Str)) = (ds.take i).map (fun x => (⟨(spd x.1).toArray⟩ : Str)) ++ [⟨(spd (ds[i]).1).toArray⟩] := by
          rw [List.take_succ_eq_append_getElem hi', List.map_append]; rfl
        have hxi : ds[(0 + (i : Int)).toNat]? = some ds[i] := by rw [show (0 + (i : Int)).toNat = i by omega]; exact List.getElem?_eq_getElem hi'
        have hi5 : i < 5 := hi
        generalize ds[i] = x at hxi hb hnext
        have hb3 : 0 ≤ x.1.fdiv 343 ∧ x.1.fdiv 343 < 3 := by rw [Int.fdiv_eq_ediv_of_nonneg _ (by decide)]; omega
        (try clear F5); (try clear N5); (try clear N2); (try clear F2)
        dsimp only
        k_extra "mine steps"
        exact end_none (by k_asm) (by k_asm) (LCg.Off3.of off) True.intro ⟨rfl, ts ++ [(_, _)], by rw [List.map_append]; rfl, by rw [List.map_append, hts, hnext]; rfl⟩
        -- ]]
      case fin =>
        intro ys news1 hJ
        obtain ⟨rfl, ts, rfl, hts⟩ := hJ
        rw [List.take_of_length_le (by rw [hdl]; exact Nat.le_refl _)] at hts
        intro Dt ht tkt F3 N3 o1
        simp only [LCg.Off1, and_true] at o1
        have htl : ts.length = 5 := by have := congrArg List.length hts; simpa [hdl] using this
        dsimp only
        k_extra "mine steps"
        refine join_texts (ts := ts) (ds := ds) N3 (.head _) hts (by omega) ?_
        intro tj kj
        obtain ⟨cz, hcz⟩ : ∃ cz, cz = (ds.map fun x => spd x.1).flatten := ⟨_, rfl⟩
        rw [← hcz]
        k_extra "mine steps"
        rename Fr _ _ _ _ => F4
        rename News _ _ _ _ => N3
        have N4 : News g L _ ((107, tabObj #[]) :: [(Dw, listOf (strsL ws) nw), (D, listOf (intsA ds) 0), (L + 1 + 1 + 1 + 1 + 1 + 1, oN), (L + 1 + 1 + 1 + 1 + 1, oR), (L + 1 + 1 + 1 + 1, oM), (L + 1 + 1 + 1, oX), (L + 1 + 1, oW2), (L + 1, oD)]) := Mine.News.sub N3 (by k_extra "mine all")
        clear N3
        have hczl : cz.length ≤ 40 := by
          rw [hcz]
          match ds, hdl with
          | [x0, x1, x2, x3, x4], _ =>
            have q0 := spd_len x0.1; have q1 := spd_len x1.1; have q2 := spd_len x2.1; have q3 := spd_len x3.1; have q4 := spd_len x4.1
            simp only [List.map_cons, List.map_nil, List.flatten_cons, List.flatten_nil, List.length_append, List.length_nil]
            omega
        refine' (lexer_con _ _ _ _ cz tj [(Dw, listOf (strsL ws) nw), (D, listOf (intsA ds) 0), (L + 1 + 1 + 1 + 1 + 1 + 1, oN), (L + 1 + 1 + 1 + 1 + 1, oR), (L + 1 + 1 + 1 + 1, oM), (L + 1 + 1 + 1, oX), (L + 1 + 1, oW2), (L + 1, oD)] hczl ?ka) _ _ _ _ _ _ _ _ _ _ _ _ _ _ _ _ _ _ _ ?k0 ?k1 ?k2 ?k3 ?k4 ?k5 ?kK ?kd ?ku ?_
        k_extra "mine useC"
        case ka => exact low8_ne (Ne.symm w1) (Nat.ne_of_gt (Nat.lt_trans l0 (Nat.lt_of_le_of_lt (Nat.le_add_right L 6) lD))) l0
        intro v' news' h' tk' F5 N5 hr'
        obtain ⟨pb, lx, dl, fdd, fs, c2, rd, c1, l, ca, ct, oc2, oc1, oca, oct, fr, fdx, ps, k1, k2, k3, k4, tl, tw, kr, tt0, e1, e2, hv', hn', hord, hrl, h107, hRd⟩ := hr'
        subst hv' hn'
        have hc1 : @LT.lt Nat _ Dw ct := hrl (Dw, listOf (strsL ws) nw) (by k_extra "mine mem")
        have hc2 : @LT.lt Nat _ D ct := hrl (D, listOf (intsA ds) 0) (by k_extra "mine mem")
        have hc3 : L + 1 + 1 + 1 + 1 + 1 + 1 < ct := hrl (L + 1 + 1 + 1 + 1 + 1 + 1, oN) (by k_extra "mine mem")
        obtain ⟨R, hR⟩ : ∃ R : List (Addr × Obj), R = [(lx, instObj 101 dl), (fdd, dictOf [⟨PyData.keyHash w9.params "read", .str "read" kr, .ref rd⟩] 1), (fs, fnD fdx #[] (some fdd)), (c2, oc2), (rd, fnD fr #[] none), (c1, oc1), (ca, oca), (ct, oct), (107, tabObj ps)] := ⟨_, rfl⟩
        have hRa : ∀ q ∈ R, ((@LE.le Nat _ ct q.1) ∨ @Eq Nat q.1 107) ∧ @Ne Nat q.1 pb ∧ @Ne Nat q.1 dl ∧ @Ne Nat q.1 l := by
          rw [hR]
          exact rest9 hord h107
        have N6 : News g L _ ((pb, listOf #[] e1) :: (dl, lexD w9 k1 k2 k3 k4 tl tw 1 fs pb) :: (l, listOf #[.int 0 tt0] e2) :: (Dw, listOf (strsL ws) nw) :: (D, listOf (intsA ds) 0) :: (L + 1 + 1 + 1 + 1 + 1 + 1, oN) :: (L + 1 + 1 + 1 + 1 + 1, oR) :: (L + 1 + 1 + 1 + 1, oM) :: (L + 1 + 1 + 1, oX) :: (L + 1 + 1, oW2) :: (L + 1, oD) :: R) := Mine.News.sub N5 (by rw [hR]; k_extra "mine all")
        clear N5
        obtain ⟨ctdl, ctl, ctpb⟩ := ord3 hord
        obtain ⟨ldl, dlpb, lpb⟩ := ordl hord
        have l6p : L + 6 < pb := Nat.lt_trans hc3 ctpb
        have l6d : L + 6 < dl := Nat.lt_trans hc3 ctdl
        have l6l : L + 6 < l := Nat.lt_trans hc3 ctl
        have nR3 : ∀ q ∈ R, q.1 ≠ L + 1 + 1 + 1 := fun q hq => off_low (hRa q hq).1 hc3 h107 ⟨Nat.lt_add_right 3 l0, Nat.add_le_add_left (by decide : 3 ≤ 6) L⟩
        have nR4 : ∀ q ∈ R, q.1 ≠ L + 1 + 1 + 1 + 1 := fun q hq => off_low (hRa q hq).1 hc3 h107 ⟨Nat.lt_add_right 4 l0, Nat.add_le_add_left (by decide : 4 ≤ 6) L⟩
        have nR5 : ∀ q ∈ R, q.1 ≠ L + 1 + 1 + 1 + 1 + 1 := fun q hq => off_low (hRa q hq).1 hc3 h107 ⟨Nat.lt_add_right 5 l0, Nat.add_le_add_left (by decide : 5 ≤ 6) L⟩
        have nR6 : ∀ q ∈ R, q.1 ≠ L + 1 + 1 + 1 + 1 + 1 + 1 := fun q hq => off_low (hRa q hq).1 hc3 h107 ⟨Nat.lt_add_right 6 l0, Nat.add_le_add_left (by decide : 6 ≤ 6) L⟩
        have hlxR : (lx, instObj 101 dl) ∈ R := by rw [hR]; k_extra "mine mem"
        have h107R : (107, tabObj ps) ∈ R := by rw [hR]; k_extra "mine mem"
        k_extra "mine steps"
        refine LCg.CompSrc.range (by rfl) (by k_asm) (by k_asm) (by assumption) (by first | decide | rfl) (by first | rfl | decide) (by first | size_fits | exact Nat.le_of_ble_eq_true rfl) ?_
        intro g3
        rename (Obj.data _ = Data.cell (some (Value.ref lx))) => eX2
        rename Obj => oX2
        have subR : ∀ q ∈ R, q ∈ ((Dw, listOf (strsL ws) nw) :: (D, listOf (intsA ds) 0) :: (L + 1 + 1 + 1 + 1 + 1 + 1, oN) :: (L + 1 + 1 + 1 + 1 + 1, oR) :: (L + 1 + 1 + 1 + 1, oM) :: (L + 1 + 1 + 1, oX2) :: (L + 1 + 1, oW2) :: (L + 1, oD) :: R) := fun q hq => by simp [hq]
        have hlow := low8 (o1 := listOf (strsL ws) nw) (o2 := listOf (intsA ds) 0) (o3 := oN) (o4 := oR) (o5 := oM) (o6 := oX2) (o7 := oW2) (o8 := oD) hc1 hc2 hc3
        have difR : ∀ q ∈ ((Dw, listOf (strsL ws) nw) :: (D, listOf (intsA ds) 0) :: (L + 1 + 1 + 1 + 1 + 1 + 1, oN) :: (L + 1 + 1 + 1 + 1 + 1, oR) :: (L + 1 + 1 + 1 + 1, oM) :: (L + 1 + 1 + 1, oX2) :: (L + 1 + 1, oW2) :: (L + 1, oD) :: R), @Ne Nat q.1 dl ∧ @Ne Nat q.1 l := fun q hq => by
          rcases List.mem_append.mp (show q ∈ [(Dw, listOf (strsL ws) nw), (D, listOf (intsA ds) 0), (L + 1 + 1 + 1 + 1 + 1 + 1, oN), (L + 1 + 1 + 1 + 1 + 1, oR), (L + 1 + 1 + 1 + 1, oM), (L + 1 + 1 + 1, oX2), (L + 1 + 1, oW2), (L + 1, oD)] ++ R from hq) with h | h
          · exact ⟨Nat.ne_of_lt (Nat.lt_trans (hlow q h) ctdl), Nat.ne_of_lt (Nat.lt_trans (hlow q h) ctl)⟩
          · exact (hRa q h).2.2
        have fixR : ∀ q ∈ [(rd, fnD fr #[] none), (c1, oc1), (ca, oca), (ct, oct)], q ∈ R := by
          rw [hR]
          k_extra "mine all"
        have m2R : (fdd, dictOf [⟨PyData.keyHash w9.params "read", .str "read" kr, .ref rd⟩] 1) ∈ R := by rw [hR]; k_extra "mine mem"
        have m3R : (fs, fnD fdx #[] (some fdd)) ∈ R := by rw [hR]; k_extra "mine mem"
        have m4R : (rd, fnD fr #[] none) ∈ R := by rw [hR]; k_extra "mine mem"
        have ndl : dl ≠ l := Nat.ne_of_gt ldl
        have LI := LexIn.mk hRd (subR _ hlxR) (subR _ m2R) (subR _ m3R) (subR _ m4R) (fun q hq => subR q (fixR q hq)) (fun q hq => (difR q hq).1) (fun q hq => (difR q hq).2) ndl
        clear hR
        have npb : ∀ q ∈ ((Dw, listOf (strsL ws) nw) :: (D, listOf (intsA ds) 0) :: (L + 1 + 1 + 1 + 1 + 1 + 1, oN) :: (L + 1 + 1 + 1 + 1 + 1, oR) :: (L + 1 + 1 + 1 + 1, oM) :: (L + 1 + 1 + 1, oX2) :: (L + 1 + 1, oW2) :: (L + 1, oD) :: R), @Ne Nat q.1 pb := fun q hq => by
          rcases List.mem_append.mp (show q ∈ [(Dw, listOf (strsL ws) nw), (D, listOf (intsA ds) 0), (L + 1 + 1 + 1 + 1 + 1 + 1, oN), (L + 1 + 1 + 1 + 1 + 1, oR), (L + 1 + 1 + 1 + 1, oM), (L + 1 + 1 + 1, oX2), (L + 1 + 1, oW2), (L + 1, oD)] ++ R from hq) with h | h
          · exact Nat.ne_of_lt (Nat.lt_trans (hlow q h) ctpb)
          · exact (hRa q h).2.1
        refine CompRest.ind (fun i ys news1 => ∃ (ts : List (Str × Tok)) (p n e : Nat) (tl' t' : Tok) (ln : Int) (lead : List Nat), ys = ts.map (fun x => Value.str x.1 x.2) ∧ ts.map Prod.fst = (W6 ds).take i ∧
            news1 = (pb, listOf #[] e) :: (dl, lexD w9 k1 k2 k3 k4 tl' tw ln fs pb) :: (l, listOf #[.int (p : Int) t'] n) :: ((Dw, listOf (strsL ws) nw) :: (D, listOf (intsA ds) 0) :: (L + 1 + 1 + 1 + 1 + 1 + 1, oN) :: (L + 1 + 1 + 1 + 1 + 1, oR) :: (L + 1 + 1 + 1 + 1, oM) :: (L + 1 + 1 + 1, oX2) :: (L + 1 + 1, oW2) :: (L + 1, oD) :: R) ∧ (lead = [] ∨ lead = [10]) ∧ (i = 6 → lead = []) ∧ cz.drop p = lead ++ rem ds i ∧ ln + ((cz.drop p).count 10 : Nat) = 1 + (cz.count 10 : Nat))
          ⟨[], 0, e2, e1, tl, tt0, 1, [], rfl, rfl, rfl, Or.inl rfl, fun _ => rfl, by rw [hcz]; rfl, rfl⟩ ?step ?fin
        case step =>
          -- [[
          intro i ys news1 v I oI C oC Da m₂ h tk E' hi hJ hv hC hx F7 N7 off ne
          obtain ⟨tsk, p, n, e, tl', t', ln, lead, rfl, htsk, rfl, hlead, hl6, hdp, hcnt⟩ := hJ
          obtain ⟨tv, rfl⟩ := hv
          dsimp only
          k_extra "mine steps"
          obtain ⟨word, left, lead', hT, hleft, hl', hl6', hcl, hwl, hW⟩ := tok_turn hdl (show i < 6 from hi)
          obtain ⟨n₀, LN, hd9, hLN⟩ : ∃ (n₀ : Nat) (LN : Int), ((n₀ = 1 ∧ cz.drop p = 10 :: rem ds i ∧ LN = ln + 1) ∨ (n₀ = 0 ∧ cz.drop p = rem ds i ∧ LN = ln)) ∧ LN + (left.count 10 : Nat) = 1 + (cz.count 10 : Nat) := by
            rcases hlead with h | h
            · refine ⟨0, ln, Or.inr ⟨rfl, by rw [hdp, h]; rfl, rfl⟩, ?_⟩
              rw [hdp, h, List.nil_append] at hcnt
              rw [hcl]; exact hcnt
            · refine ⟨1, ln + 1, Or.inl ⟨rfl, by rw [hdp, h]; rfl, rfl⟩, ?_⟩
              rw [hdp, h, List.cons_append, List.nil_append, List.count_cons_self] at hcnt
              rw [hcl]; push_cast at hcnt; omega
          have o1 := off (pb, listOf #[] e) (.head _)
          have o2 := off (dl, lexD w9 k1 k2 k3 k4 tl' tw ln fs pb) (.tail _ (.head _))
          have o3 := off (l, listOf #[.int (p : Int) t'] n) (.tail _ (.tail _ (.head _)))
          have oR9 : ∀ q ∈ ((Dw, listOf (strsL ws) nw) :: (D, listOf (intsA ds) 0) :: (L + 1 + 1 + 1 + 1 + 1 + 1, oN) :: (L + 1 + 1 + 1 + 1 + 1, oR) :: (L + 1 + 1 + 1 + 1, oM) :: (L + 1 + 1 + 1, oX2) :: (L + 1 + 1, oW2) :: (L + 1, oD) :: R), q.1 ≠ I ∧ q.1 ≠ C ∧ q.1 ≠ Da := fun q hq => off q (.tail _ (.tail _ (.tail _ hq)))
          have N8 : News g L h ((pb, listOf #[] e) :: (dl, lexD w9 k1 k2 k3 k4 tl' tw ln fs pb) :: (l, listOf #[.int (p : Int) t'] n) :: (I, oI) :: (C, oC) :: (Da, LCg.lst (tsk.map fun x => Value.str x.1 x.2)) :: ((Dw, listOf (strsL ws) nw) :: (D, listOf (intsA ds) 0) :: (L + 1 + 1 + 1 + 1 + 1 + 1, oN) :: (L + 1 + 1 + 1 + 1 + 1, oR) :: (L + 1 + 1 + 1 + 1, oM) :: (L + 1 + 1 + 1, oX2) :: (L + 1 + 1, oW2) :: (L + 1, oD) :: R)) := Mine.News.sub N7 (by
            intro q hq
            rcases List.mem_cons.mp hq with h | hq
            · subst h; exact .tail _ (.tail _ (.tail _ (.head _)))
            rcases List.mem_cons.mp hq with h | hq
            · subst h; exact .tail _ (.tail _ (.tail _ (.tail _ (.head _))))
            rcases List.mem_cons.mp hq with h | hq
            · subst h; exact .tail _ (.tail _ (.tail _ (.tail _ (.tail _ (.head _)))))
            rcases List.mem_cons.mp hq with h | hq
            · subst h; exact .head _
            rcases List.mem_cons.mp hq with h | hq
            · subst h; exact .tail _ (.head _)
            rcases List.mem_cons.mp hq with h | hq
            · subst h; exact .tail _ (.tail _ (.head _))
            exact .tail _ (.tail _ (.tail _ (.tail _ (.tail _ (.tail _ hq))))))
          clear N7
          have LI9 := LI.grow (rest' := (I, oI) :: (C, oC) :: (Da, LCg.lst (tsk.map fun x => Value.str x.1 x.2)) :: ((Dw, listOf (strsL ws) nw) :: (D, listOf (intsA ds) 0) :: (L + 1 + 1 + 1 + 1 + 1 + 1, oN) :: (L + 1 + 1 + 1 + 1 + 1, oR) :: (L + 1 + 1 + 1 + 1, oM) :: (L + 1 + 1 + 1, oX2) :: (L + 1 + 1, oW2) :: (L + 1, oD) :: R)) (fun q hq => .tail _ (.tail _ (.tail _ hq)))
            (List.forall_mem_cons.mpr ⟨Ne.symm o2.1, List.forall_mem_cons.mpr ⟨Ne.symm o2.2.1, List.forall_mem_cons.mpr ⟨Ne.symm o2.2.2, LI.n1⟩⟩⟩)
            (List.forall_mem_cons.mpr ⟨Ne.symm o3.1, List.forall_mem_cons.mpr ⟨Ne.symm o3.2.1, List.forall_mem_cons.mpr ⟨Ne.symm o3.2.2, LI.n2⟩⟩⟩)
          refine' (token_con _ _ _ _ cz lx dl fdd fs rd l pb fdx k1 k2 k3 k4 tl' tw kr t' ln LN p n e fr _ _ LI9 (List.forall_mem_cons.mpr ⟨Ne.symm o1.1, List.forall_mem_cons.mpr ⟨Ne.symm o1.2.1, List.forall_mem_cons.mpr ⟨Ne.symm o1.2.2, npb⟩⟩⟩) (show @Ne Nat _ _ by k_ne) (show @Ne Nat _ _ by k_ne) n₀ (rem ds i) word left hd9 hT hwl) _ _ _ _ _ _ _ _ _ _ _ _ _ _ _ _ _ _ _ ?k0 ?k1 ?k2 ?k3 ?k4 ?k5 ?kK ?kd ?ku ?_
          k_extra "mine useC"
          intro v' news' h' tk' F9 N9 hr'
          obtain ⟨u1, u2, n9, tl9, p9, hp9, hv', hn'⟩ := hr'
          subst hv' hn'
          refine LCg.CompEnd.intro F9 N9 ((pb, listOf #[] e) :: (dl, lexD w9 k1 k2 k3 k4 tl9 tw LN fs pb) :: (l, listOf #[.int ((p9 : Nat) : Int) u2] n9) :: ((Dw, listOf (strsL ws) nw) :: (D, listOf (intsA ds) 0) :: (L + 1 + 1 + 1 + 1 + 1 + 1, oN) :: (L + 1 + 1 + 1 + 1 + 1, oR) :: (L + 1 + 1 + 1 + 1, oM) :: (L + 1 + 1 + 1, oX2) :: (L + 1 + 1, oW2) :: (L + 1, oD) :: R)) ?_ (LCg.Off3.of ?_) True.intro ⟨tsk ++ [(⟨word.toArray⟩, u1)], p9, n9, e, tl9, u2, LN, lead', by rw [List.map_append]; rfl, by rw [List.map_append, htsk, hW]; rfl, rfl, hl', hl6', by rw [hp9, hleft], by rw [hp9]; exact hLN⟩
          · intro q hq
            rcases List.mem_cons.mp hq with h | hq
            · subst h; exact .tail _ (.tail _ (.tail _ (.head _)))
            rcases List.mem_cons.mp hq with h | hq
            · subst h; exact .tail _ (.tail _ (.tail _ (.tail _ (.head _))))
            rcases List.mem_cons.mp hq with h | hq
            · subst h; exact .tail _ (.tail _ (.tail _ (.tail _ (.tail _ (.head _)))))
            rcases List.mem_cons.mp hq with h | hq
            · subst h; exact .head _
            rcases List.mem_cons.mp hq with h | hq
            · subst h; exact .tail _ (.head _)
            rcases List.mem_cons.mp hq with h | hq
            · subst h; exact .tail _ (.tail _ (.head _))
            exact .tail _ (.tail _ (.tail _ (.tail _ (.tail _ (.tail _ hq)))))
          · exact List.forall_mem_cons.mpr ⟨o1, List.forall_mem_cons.mpr ⟨o2, List.forall_mem_cons.mpr ⟨o3, oR9⟩⟩⟩
          -- ]]
        case fin =>
          intro ys news1 hJ
          obtain ⟨tsk, p, n, e, tl', t', ln, lead, rfl, htsk, rfl, hlead, hl6, hdp, hcnt⟩ := hJ
          have hlead0 : lead = [] := hl6 rfl
          have hrem : rem ds 6 = [] := by unfold rem; rw [List.drop_eq_nil_of_le (by omega)]; rfl
          have hdp0 : cz.drop p = [] := by rw [hdp, hlead0, hrem]; rfl
          have hln : ln = 1 + (cz.count 10 : Nat) := by rw [hdp0] at hcnt; simpa using hcnt
          have htold : tsk.map Prod.fst = W6 ds := by rw [htsk]; exact List.take_of_length_le (by simp [W6, hdl])
          clear hdp hcnt htsk hl6 hlead hlead0 hrem
          intro Dt2 ht2 tkt2 F9 N9 o9
          dsimp only
          k_extra "mine steps"
          rename Fr _ _ _ _ => Fa
          rename News _ _ _ _ => Na
          have htW : ∀ t, tsk.map Prod.fst = (ws ++ [(Str.ofString "", t)]).map Prod.fst := fun t => by rw [htold, List.map_append, hws, emp_is]; rfl
          have hlay : ∀ t, ∀ a ∈ (ws ++ [(Str.ofString "", t)]).map Prod.fst, PyData.canLay0 (.str a) = true := fun t a ha => lay_W6 ds a (by rw [← htold, htW t]; exact ha)
          have hcount : Txt.count ⟨cz.toArray⟩ (Str.ofString "\n") = ((cz.count 10 : Nat) : Int) := by rw [show Str.ofString "\n" = ⟨#[10]⟩ by decide +kernel]; exact count_one cz 10
          have hwl5 : ws.length = 5 := by have := congrArg List.length hws; simpa [hdl] using this
          k_here
          k_dflt (refine' add_txts Fa Na ?k3 ?k4 ?k5 ?_; (case k3 => k_extra "mine mem"); (case k4 => k_extra "mine mem"); (case k5 => omega))
          intro Db hb Fb Nb lb
          dsimp only
          k_here
          k_dflt (refine' ne_txts Nb ?k3 ?k4 ?k5 ?k6 ?k7 ?_; (case k3 => k_extra "mine mem"); (case k4 => k_extra "mine mem"); (case k5 => exact htW _); (case k6 => exact hlay _); (case k7 => ktr_units))
          clear htW hlay Fa Na
          k_extra "mine steps"
          any_goals (try (exfalso; omega))
          have NB : News g L _ ((pb, listOf #[] e) :: (dl, lexD w9 k1 k2 k3 k4 tl' tw ln fs pb) :: (l, listOf #[.int (p : Int) t'] n) :: (Dw, listOf (strsL ws) nw) :: (D, listOf (intsA ds) 0) :: (L + 1 + 1 + 1 + 1 + 1 + 1, oN) :: (L + 1 + 1 + 1 + 1 + 1, oR) :: (L + 1 + 1 + 1 + 1, oM) :: (L + 1 + 1 + 1, oX2) :: (L + 1 + 1, oW2) :: (L + 1, oD) :: R) := Mine.News.sub Nb (fun q hq => .tail _ (.tail _ (.tail _ hq)))
          obtain ⟨mmB, FB⟩ : ∃ mm, Fr g L _ mm := ⟨_, Fb⟩
          clear Nb Fb o9 lb
          obtain ⟨hq1, hq2, hq3, hq4, hq5, hq6, hq7, hq8, hq9, hq10⟩ := hord
          have hcl : (@LT.lt Nat _ (L + 6) pb ∧ @LT.lt Nat _ (L + 6) dl ∧ @LT.lt Nat _ (L + 6) l) := ⟨l6p, l6d, l6l⟩
          have hcpb : @Ne Nat pb dl := Nat.ne_of_gt dlpb
          have hcdl : @Ne Nat pb l := Nat.ne_of_gt lpb
          have hc1 : @Ne Nat Dw D := Ne.symm oW0.1
          have hc2 : (@LT.lt Nat _ (L + 6) D) := lD
          have hc3 : ∀ k, 1 ≤ k ∧ k ≤ 6 → @Ne Nat Dw (L + k) := by
            intro k hk
            obtain ⟨q0, q6, q5, q4, q3, q2, q1, _⟩ := oW0
            match k, hk with
            | 0, h => exact absurd h.1 (by decide)
            | 1, _ => exact Ne.symm q1
            | 2, _ => exact Ne.symm q2
            | 3, _ => exact Ne.symm q3
            | 4, _ => exact Ne.symm q4
            | 5, _ => exact Ne.symm q5
            | 6, _ => exact Ne.symm q6
            | n + 7, h => exact absurd (Nat.le_trans (Nat.le_add_left 7 n) h.2) (by decide)
          clear hRa subR difR hcz hczl hrl hRd oW0 hts htl hcount hln htold hq1 hq2 hq3 hq4 hq5 hq6 hq7 hq8 hq9 hq10
          k_extra "mine steps"
          refine wpAny_For ?_
          k_extra "mine steps"
          rename_i I9 _ o9 hi9 F1 N1 l9
          have i9pb : @Ne Nat pb I9 := Nat.ne_of_lt (l9 _ (.head _))
          have i9dl : @Ne Nat dl I9 := Nat.ne_of_lt (l9 _ (.tail _ (.head _)))
          have i9l : @Ne Nat l I9 := Nat.ne_of_lt (l9 _ (.tail _ (.tail _ (.head _))))
          have n9 : ∀ q ∈ ((Dw, listOf (strsL ws) nw) :: (D, listOf (intsA ds) 0) :: (L + 1 + 1 + 1 + 1 + 1 + 1, oN) :: (L + 1 + 1 + 1 + 1 + 1, oR) :: (L + 1 + 1 + 1 + 1, oM) :: (L + 1 + 1 + 1, oX2) :: (L + 1 + 1, oW2) :: (L + 1, oD) :: R), @Ne Nat q.1 I9 := fun q hq => Nat.ne_of_lt (l9 q (.tail _ (.tail _ (.tail _ hq))))
          refine for_own (fun nn m1 news1 => ∃ (i e' : Nat) (o : Obj) (qs : List (Str × Tok)), news1 = (I9, o) :: (pb, listOf (strsL qs) e') :: (dl, lexD w9 k1 k2 k3 k4 tl' tw ln fs pb) :: (l, listOf #[.int (p : Int) t'] n) :: ((Dw, listOf (strsL ws) nw) :: (D, listOf (intsA ds) 0) :: (L + 1 + 1 + 1 + 1 + 1 + 1, oN) :: (L + 1 + 1 + 1 + 1 + 1, oR) :: (L + 1 + 1 + 1 + 1, oM) :: (L + 1 + 1 + 1, oX2) :: (L + 1 + 1, oW2) :: (L + 1, oD) :: R) ∧ IsLi o Dw i ∧ i ≤ 5 ∧ nn = 5 - i ∧ qs.map Prod.fst = (qsOf (ds.take i)).map txt)
            F1 N1 (n₀ := 5) ⟨0, e, o9, [], rfl, hi9, by omega, rfl, rfl⟩ ?_ (by passes_own) (by intro _; rfl)
          clear F1 N1 hi9 l9
          intro nn m1 news1 h1 tk1 F2 N2 J W9
          obtain ⟨i, e', o, qs, rfl, hio, hi5, rfl, hqs⟩ := J
          have hn2 : ∀ q ∈ (pb, listOf (strsL qs) e') :: (dl, lexD w9 k1 k2 k3 k4 tl' tw ln fs pb) :: (l, listOf #[.int (p : Int) t'] n) :: ((Dw, listOf (strsL ws) nw) :: (D, listOf (intsA ds) 0) :: (L + 1 + 1 + 1 + 1 + 1 + 1, oN) :: (L + 1 + 1 + 1 + 1 + 1, oR) :: (L + 1 + 1 + 1 + 1, oM) :: (L + 1 + 1 + 1, oX2) :: (L + 1 + 1, oW2) :: (L + 1, oD) :: R), q.1 ≠ I9 := List.forall_mem_cons.mpr ⟨i9pb, List.forall_mem_cons.mpr ⟨i9dl, List.forall_mem_cons.mpr ⟨i9l, n9⟩⟩⟩
          have hmw : (Dw, listOf (strsL ws) nw) ∈ (pb, listOf (strsL qs) e') :: (dl, lexD w9 k1 k2 k3 k4 tl' tw ln fs pb) :: (l, listOf #[.int (p : Int) t'] n) :: ((Dw, listOf (strsL ws) nw) :: (D, listOf (intsA ds) 0) :: (L + 1 + 1 + 1 + 1 + 1 + 1, oN) :: (L + 1 + 1 + 1 + 1 + 1, oR) :: (L + 1 + 1 + 1 + 1, oM) :: (L + 1 + 1 + 1, oX2) :: (L + 1 + 1, oW2) :: (L + 1, oD) :: R) := .tail _ (.tail _ (.tail _ (.head _)))
          by_cases hlt : i < 5
          · have hid : i < ds.length := by omega
            have hiw : i < ws.length := by omega
            have hwi : (ws[i]).1 = txt (wd (ds[i]).1) := by
              have := congrArg (fun z => z[i]?) hws
              simpa [hid, hiw] using this
            have hx : (strsL ws)[i]? = some (.str (W3 ((ds[i]).1.fmod 7) (((ds[i]).1.fdiv 7).fmod 7) (((ds[i]).1.fdiv 49).fmod 7)) (ws[i]).2) := by
              have : (strsL ws)[i]? = some (.str (ws[i]).1 (ws[i]).2) := by simp [strsL, hiw]
              rw [this, hwi]; rfl
            have hqn := qs_next hid
            generalize (ws[i]).2 = tx at hx
            generalize (ds[i]).1 = d at hx hqn
            clear hwi
            have s1' := sev7 d
            have s2' := sev7 (d.fdiv 7)
            have s3' := sev7 (d.fdiv 49)
            refine next_li F2 N2 hio hn2 hmw hx ?_
            intro h3 o3 hio3 F3 N3
            clear F2 N2
            dsimp only
            k_extra "mine steps"
            · rename Fr _ _ _ _ => F4
              rename News _ _ _ _ => N4
              rename (_ && _) = true => hz
              exact ⟨_, _, _, _, 5 - (i + 1), rfl, F4, drop1 (drop1 N4), by omega, i + 1, e', o3, qs, rfl, hio3, by omega, rfl, by rw [hqn, if_neg (nz_no hz), List.append_nil]; exact hqs⟩
            · rename News _ _ _ _ => N4
              rename (_ && _) = false => hz
              have hql : qs.length ≤ 5 := by
                have h1 := congrArg List.length hqs
                rw [List.length_map, List.length_map] at h1
                have h2 := qs_len (ds.take i)
                rw [List.length_take] at h2
                omega
              replace N4 : News g L _ ((pb, listOf (strsL qs) e') :: (dl, lexD w9 k1 k2 k3 k4 tl' tw ln fs pb) :: (I9, o3) :: (l, listOf #[.int (p : Int) t'] n) :: ((Dw, listOf (strsL ws) nw) :: (D, listOf (intsA ds) 0) :: (L + 1 + 1 + 1 + 1 + 1 + 1, oN) :: (L + 1 + 1 + 1 + 1 + 1, oR) :: (L + 1 + 1 + 1 + 1, oM) :: (L + 1 + 1 + 1, oX2) :: (L + 1 + 1, oW2) :: (L + 1, oD) :: R)) := Mine.News.sub N4 (by
                intro q hq
                rcases List.mem_cons.mp hq with h | hq
                · subst h; k_extra "mine mem"
                rcases List.mem_cons.mp hq with h | hq
                · subst h; k_extra "mine mem"
                rcases List.mem_cons.mp hq with h | hq
                · subst h; k_extra "mine mem"
                rcases List.mem_cons.mp hq with h | hq
                · subst h; k_extra "mine mem"
                exact .tail _ (.tail _ (.tail _ (.tail _ (.tail _ (.tail _ hq))))))
              refine' (push_pb w9 _ _ _ lx dl fs pb k1 k2 k3 k4 tl' tw ln e' _ tx qs ((I9, o3) :: (l, listOf #[.int (p : Int) t'] n) :: ((Dw, listOf (strsL ws) nw) :: (D, listOf (intsA ds) 0) :: (L + 1 + 1 + 1 + 1 + 1 + 1, oN) :: (L + 1 + 1 + 1 + 1 + 1, oR) :: (L + 1 + 1 + 1 + 1, oM) :: (L + 1 + 1 + 1, oX2) :: (L + 1 + 1, oW2) :: (L + 1, oD) :: R)) (.tail _ (.tail _ LI.h1)) (List.forall_mem_cons.mpr ⟨Ne.symm i9pb, List.forall_mem_cons.mpr ⟨Ne.symm hcdl, npb⟩⟩) (Ne.symm hcpb) (by omega)) _ _ _ _ _ _ _ _ _ _ _ _ _ _ _ _ _ _ _ ?k1 ?k2 ?k3 ?k4 ?k5 ?kK ?kd ?ku ?_
              k_extra "mine use"
              intro v' news' h' tk' F7 N7 hr'
              obtain ⟨hv', e7, hn'⟩ := hr'
              subst hv' hn'
              k_extra "mine steps"
              rename Fr _ _ _ _ => F8
              rename News _ _ _ _ => N8
              exact ⟨_, _, _, _, 5 - (i + 1), rfl, F8, back3 N8 (.head _) (fun q hq => .tail _ hq), by omega, i + 1, e7, o3, qs ++ [(_, tx)], rfl, hio3, by omega, rfl, by rw [hqn, if_pos (nz_yes hz), List.map_append, List.map_append, hqs]; rfl⟩
          · have hx : (strsL ws)[i]? = none := by simp [strsL]; omega
            refine next_li_end rfl F2 N2 hio hn2 hmw hx ?_
            intro h3 F3 N3
            clear F2 N2
            obtain rfl : i = 5 := by omega
            rw [List.take_of_length_le (by omega)] at hqs
            dsimp only
            k_extra "mine steps"
            refine' (line_con _ _ _ _ cz lx dl fdd fs rd l pb fdx k1 k2 k3 k4 tl' tw kr t' ln p n e' fr _ _ qs (qsOf ds) LI npb hcpb hcdl hdp0 hqs (qs_ok ds) (by have := qs_len ds; omega)) _ _ _ _ _ _ _ _ _ _ _ _ _ _ _ _ _ _ _ ?k0 ?k1 ?k2 ?k3 ?k4 ?k5 ?kK ?kd ?ku ?_
            k_extra "mine useC"
            intro v' news' h' tk' F4 N4 hr'
            obtain ⟨Dm, gm, hm, u1, u2, n1, tl2, p2, e2', n2, u3, hv', hnm0, hsm, hdp2, hn', lD1, lD2, lD3, lD4⟩ := hr'
            subst hv' hn'
            have lD5 : @LT.lt Nat _ (L + 1 + 1 + 1 + 1 + 1 + 1) Dm := lD1 (L + 1 + 1 + 1 + 1 + 1 + 1, oN) (by k_extra "mine mem")
            have lD6 : @LT.lt Nat _ (L + 6) Dm := lD5
            clear F3 N3
            have hw4 : @Ne Nat Dw (L + 1 + 1 + 1 + 1) := hc3 4 (by decide)
            have hw5 : @Ne Nat Dw (L + 1 + 1 + 1 + 1 + 1) := hc3 5 (by decide)
            have hw6 : @Ne Nat Dw (L + 1 + 1 + 1 + 1 + 1 + 1) := hc3 6 (by decide)
            k_extra "mine steps"
            rename (Obj.data _ = Data.cell (some (Value.ref Dm))) => eM2
            rename Obj => oM2
            rename Fr _ _ _ _ => F5
            rename News _ _ _ _ => N5
            k_extra "mine comp"
            k_extra "mine steps"
            obtain ⟨LED, hLED⟩ : ∃ LED : List (Addr × Obj), LED = ((Dm, pairO (.int gm u1) (.int hm u2) n1) :: (pb, listOf #[] e2') :: (dl, lexD w9 k1 k2 k3 k4 tl2 tw ln fs pb) :: (l, listOf #[.int ((p2 : Nat) : Int) u3] n2) :: (Dw, listOf (strsL ws) nw) :: (D, listOf (intsA ds) 0) :: (L + 1 + 1 + 1 + 1 + 1 + 1, oN) :: (L + 1 + 1 + 1 + 1 + 1, oR) :: (L + 1 + 1 + 1 + 1, oM2) :: (L + 1 + 1 + 1, oX2) :: (L + 1 + 1, oW2) :: (L + 1, oD) :: R) := ⟨_, rfl⟩
            rw [← hLED] at N5
            have mDw : (Dw, listOf (strsL ws) nw) ∈ LED := by rw [hLED]; k_extra "mine mem"
            refine LCg.CompSrc.ledger (by rfl) F5 N5 mDw (by simp [strsL, hwl5, sizeLine]) ?_
            intro g4
            clear F5 N5
            refine CompRest.ind (fun i ys news1 => ∃ (as : List Addr) (pa pb' : Addr → Int), ys = as.map Value.ref ∧ (∀ q ∈ LED, q ∈ news1) ∧ (∀ a ∈ as, PT news1 pa pb' a) ∧ nms pa pb' as = (ds.take i).map fun x => nmW (wd x.1)) ⟨[], fun _ => 0, fun _ => 0, rfl, fun _ h => h, (by intro a ha; cases ha), rfl⟩ ?step ?fin
            case step =>
              -- [[
              intro i ys news1 v I oI C oC Da m₂ h tk E' hi hJ hv hC hx F6 N6 off ne
              obtain ⟨as, pa, pb', rfl, hsub, hit, heq⟩ := hJ
              have hiw : i < ws.length := by simpa [strsL] using hi
              have hid : i < ds.length := by omega
              have hwi : (ws[i]).1 = txt (wd (ds[i]).1) := by
                have := congrArg (fun z => z[i]?) hws
                simpa [hid, hiw] using this
              have hv' : v = .str (W3 ((ds[i]).1.fmod 7) (((ds[i]).1.fdiv 7).fmod 7) (((ds[i]).1.fdiv 49).fmod 7)) (ws[i]).2 := by
                have h1 : (strsL ws)[i]? = some (.str (ws[i]).1 (ws[i]).2) := by simp [strsL, hiw]
                rw [h1, hwi] at hv
                exact (Option.some.inj hv).symm
              subst hv'
              have hnext : (ds.take (i + 1)).map (fun x => nmW (wd x.1)) = (ds.take i).map (fun x => nmW (wd x.1)) ++ [nmW (wd (ds[i]).1)] := by
                rw [List.take_succ_eq_append_getElem hid, List.map_append]; rfl
              clear hwi hv
              generalize (ws[i]).2 = tx at hx
              generalize (ds[i]).1 = d at hx hnext
              have s1' := sev7 d
              have s2' := sev7 (d.fdiv 7)
              have s3' := sev7 (d.fdiv 49)
              dsimp only
              k_extra "mine steps"
              rename Fr _ _ _ _ => F9
              rename News _ _ _ _ => N9
              rename (_ ∧ _ ∧ _ ∧ AllLt _ news1) => lz
              obtain ⟨pa2, pb2, q1, q2⟩ := PT.grow hit (ktn_ltOf lz.2.2.2) (nm_0 s1' s2' s3')
              exact end_one F9 N9 (LCg.Off3.of off) ⟨Nat.ne_of_gt lz.1, Nat.ne_of_gt lz.2.1, Nat.ne_of_gt lz.2.2.1⟩ (Or.inr ⟨_, .tail _ (hsub _ mDw), rfl, _, rfl⟩) ⟨as ++ [_], pa2, pb2, by simp, fun q hq => .tail _ (hsub q hq), q1, by rw [q2, hnext, heq]; rfl⟩
              -- ]]
            case fin =>
              intro ys news1 hJ
              obtain ⟨as, pa, pb', rfl, hsub, hit, heq⟩ := hJ
              rw [List.take_of_length_le (by simp [strsL, hwl5, hdl])] at heq
              have hal : as.length = 5 := by have := congrArg List.length heq; simpa [hdl] using this
              intro Dl h5 tk5 F6 N6 o6
              clear o6
              dsimp only
              k_extra "mine steps"
              refine' (off_con w9 _ _ _ Dl as pa pb' _ _ (List.Mem.head news1) (fun a ha => (hit a ha).mono fun q hq => .tail _ hq) (by omega)) _ _ _ _ _ _ _ _ _ _ _ _ _ _ _ _ _ _ _ ?k1 ?k2 ?k3 ?k4 ?k5 ?kK ?kd ?ku ?_
              k_extra "mine use"
              intro v' news' h' tk' F7 N7 hr'
              obtain ⟨Do, g1, h1, v1, v2, n9, hv', hnm1, hsm1, hsub1, hmo⟩ := hr'
              subst hv'
              have hsm2 := hsm.trans (qs_same ds)
              obtain ⟨eg, eh⟩ := uniq hnm1 hnm0 (hsm1.trans (by rw [heq]; exact hsm2.symm))
              subst eg eh
              subst hLED
              have N8 : News g L _ ((Do, pairO (.int g1 v1) (.int h1 v2) n9) :: ((Dm, pairO (.int g1 u1) (.int h1 u2) n1) :: (pb, listOf #[] e2') :: (dl, lexD w9 k1 k2 k3 k4 tl2 tw ln fs pb) :: (l, listOf #[.int ((p2 : Nat) : Int) u3] n2) :: (Dw, listOf (strsL ws) nw) :: (D, listOf (intsA ds) 0) :: (L + 1 + 1 + 1 + 1 + 1 + 1, oN) :: (L + 1 + 1 + 1 + 1 + 1, oR) :: (L + 1 + 1 + 1 + 1, oM2) :: (L + 1 + 1 + 1, oX2) :: (L + 1 + 1, oW2) :: (L + 1, oD) :: R)) := Mine.News.sub N7 (List.forall_mem_cons.mpr ⟨hmo, fun q hq => hsub1 q (.tail _ (hsub q hq))⟩)
              clear N7 N6 F6 hsub1 hmo hsub
              k_extra "mine stepsC"
              rename Fr _ _ _ _ => F8
              replace N8 : News g L _ ((Dm, pairO (.int g1 u1) (.int h1 u2) n1) :: (pb, listOf #[] e2') :: (dl, lexD w9 k1 k2 k3 k4 tl2 tw ln fs pb) :: (l, listOf #[.int ((p2 : Nat) : Int) u3] n2) :: (Dw, listOf (strsL ws) nw) :: (D, listOf (intsA ds) 0) :: (L + 1 + 1 + 1 + 1 + 1 + 1, oN) :: (L + 1 + 1 + 1 + 1 + 1, oR) :: (L + 1 + 1 + 1 + 1, oM2) :: (L + 1 + 1 + 1, oX2) :: (L + 1 + 1, oW2) :: (L + 1, oD) :: R) := Mine.News.sub N8 (fun q hq => .tail _ hq)
              k_dflt (refine LCg.Assign_ListComp_U (F₀ := by k_asm) (by rfl) (by with_unfolding_all rfl) (by with_unfolding_all rfl) (by decide) (by rfl) (by decide) (by rfl) (by rfl) (by rfl) ?_)
              k_extra "mine stepsC"
              obtain ⟨LED, hLED⟩ : ∃ LED : List (Addr × Obj), LED = ((Dm, pairO (.int g1 u1) (.int h1 u2) n1) :: (pb, listOf #[] e2') :: (dl, lexD w9 k1 k2 k3 k4 tl2 tw ln fs pb) :: (l, listOf #[.int ((p2 : Nat) : Int) u3] n2) :: (Dw, listOf (strsL ws) nw) :: (D, listOf (intsA ds) 0) :: (L + 1 + 1 + 1 + 1 + 1 + 1, oN) :: (L + 1 + 1 + 1 + 1 + 1, oR) :: (L + 1 + 1 + 1 + 1, oM2) :: (L + 1 + 1 + 1, oX2) :: (L + 1 + 1, oW2) :: (L + 1, oD) :: R) := ⟨_, rfl⟩
              rw [← hLED] at N8 mDw
              have mDm : (Dm, pairO (.int g1 u1) (.int h1 u2) n1) ∈ LED := by rw [hLED]; exact .head _
              refine LCg.CompSrc.ledger (by rfl) (by k_asm) N8 mDw (by simp [strsL, hwl5, sizeLine]) ?_
              intro g5
              clear N8
              refine CompRest.ind (fun i ys news1 => ∃ (T : List (Addr × Obj)) (as : List Addr) (pa pb' : Addr → Int), ys = as.map Value.ref ∧ news1 = T ++ LED ∧ (∀ q ∈ T, @LT.lt Nat _ Dm q.1) ∧ (∀ a ∈ as, PV T pa pb' a) ∧ nms pa pb' as = (ds.take i).map fun x => plW (wd x.1)) ⟨[], [], fun _ => 0, fun _ => 0, rfl, rfl, (by intro q hq; cases hq), (by intro a ha; cases ha), rfl⟩ ?step ?fin
              case step =>
                -- [[
                intro i ys news1 v I oI C oC Da m₂ h tk E' hi hJ hv hC hx F6 N6 off ne
                obtain ⟨T, as, pa, pb', rfl, hn1, hT, hit, heq⟩ := hJ
                have hiw : i < ws.length := by simpa [strsL] using hi
                have hid : i < ds.length := by omega
                have hwi : (ws[i]).1 = txt (wd (ds[i]).1) := by
                  have := congrArg (fun z => z[i]?) hws
                  simpa [hid, hiw] using this
                have hv' : v = .str (W3 ((ds[i]).1.fmod 7) (((ds[i]).1.fdiv 7).fmod 7) (((ds[i]).1.fdiv 49).fmod 7)) (ws[i]).2 := by
                  have h1 : (strsL ws)[i]? = some (.str (ws[i]).1 (ws[i]).2) := by simp [strsL, hiw]
                  rw [h1, hwi] at hv
                  exact (Option.some.inj hv).symm
                subst hv'
                have hnext : (ds.take (i + 1)).map (fun x => plW (wd x.1)) = (ds.take i).map (fun x => plW (wd x.1)) ++ [plW (wd (ds[i]).1)] := by
                  rw [List.take_succ_eq_append_getElem hid, List.map_append]; rfl
                clear hwi hv
                generalize (ws[i]).2 = tx at hx
                generalize (ds[i]).1 = d at hx hnext
                have s1' := sev7 d
                have s2' := sev7 (d.fdiv 7)
                have s3' := sev7 (d.fdiv 49)
                dsimp only
                k_extra "mine steps"
                rename Fr _ _ _ _ => F9
                rename News _ _ _ _ => N9
                rename (_ ∧ _ ∧ _ ∧ AllLt _ news1) => lz
                have lz4 := ktn_ltOf lz.2.2.2
                obtain ⟨pa2, pb2, q1, q2⟩ := PV.grow hit (fun q hq => lz4 q (by rw [hn1]; exact List.mem_append.mpr (.inl hq)))
                refine end_one F9 N9 (LCg.Off3.of off) ⟨Nat.ne_of_gt lz.1, Nat.ne_of_gt lz.2.1, Nat.ne_of_gt lz.2.2.1⟩ (Or.inr ⟨_, .tail _ (by rw [hn1]; exact List.mem_append.mpr (.inr mDw)), rfl, _, rfl⟩) ⟨_ :: T, as ++ [_], pa2, pb2, by simp, by rw [hn1]; rfl, List.forall_mem_cons.mpr ⟨lz4 _ (by rw [hn1]; exact List.mem_append.mpr (.inr mDm)), hT⟩, q1, by rw [q2, hnext, heq]; rfl⟩
                -- ]]
              case fin =>
                intro ys news1 hJ
                obtain ⟨T, as, pa, pb', rfl, rfl, hT, hitp, heqp⟩ := hJ
                rw [List.take_of_length_le (by simp [strsL, hwl5, hdl])] at heqp
                intro Dp h6 tk6 F6 N6 o6
                obtain ⟨R2, hR2⟩ : ∃ R2 : List (Addr × Obj), R2 = (Dm, pairO (.int g1 u1) (.int h1 u2) n1) :: (R ++ T) := ⟨_, rfl⟩
                have mR2 : ∀ q ∈ R, q ∈ R2 := fun q hq => by rw [hR2]; exact .tail _ (List.mem_append.mpr (.inl hq))
                have mT2 : ∀ q ∈ T, q ∈ R2 := fun q hq => by rw [hR2]; exact .tail _ (List.mem_append.mpr (.inr hq))
                have mDm2 : (Dm, pairO (.int g1 u1) (.int h1 u2) n1) ∈ R2 := by rw [hR2]; exact .head _
                have aR2 : ∀ q ∈ R2, q ∈ R ∨ @LE.le Nat _ Dm q.1 := by
                  intro q hq
                  rw [hR2] at hq
                  rcases List.mem_cons.mp hq with h | hq
                  · subst h; exact Or.inr (Nat.le_refl _)
                  · rcases List.mem_append.mp hq with hq | hq
                    · exact Or.inl hq
                    · exact Or.inr (Nat.le_of_lt (hT q hq))
                have nS5 : ∀ q ∈ R2, q.1 ≠ L + 1 + 1 + 1 + 1 + 1 := fun q hq => by
                  rcases aR2 q hq with h | h
                  · exact nR5 q h
                  · exact (show @Ne Nat _ _ by k_ne)
                have nS6 : ∀ q ∈ R2, q.1 ≠ L + 1 + 1 + 1 + 1 + 1 + 1 := fun q hq => by
                  rcases aR2 q hq with h | h
                  · exact nR6 q h
                  · exact (show @Ne Nat _ _ by k_ne)
                have hPA : PairsAt R2 as (ds.map fun x => plW (wd x.1)) := by
                  have := (PairsAt.of hitp).mono mT2
                  rw [heqp] at this
                  exact this
                have N7 : News g L h6 ((Dp, listOf (refs as) (as.map Value.ref).length) :: (pb, listOf #[] e2') :: (dl, lexD w9 k1 k2 k3 k4 tl2 tw ln fs pb) :: (l, listOf #[.int ((p2 : Nat) : Int) u3] n2) :: (Dw, listOf (strsL ws) nw) :: (D, listOf (intsA ds) 0) :: (L + 1 + 1 + 1 + 1 + 1 + 1, oN) :: (L + 1 + 1 + 1 + 1 + 1, oR) :: (L + 1 + 1 + 1 + 1, oM2) :: (L + 1 + 1 + 1, oX2) :: (L + 1 + 1, oW2) :: (L + 1, oD) :: R2) := by
                  rw [hR2]
                  subst hLED
                  exact News.at_ (News.rot N6) [0, 2, 3, 4, 5, 6, 7, 8, 9, 10, 11, 12, 1] 13
                have lDp : @LT.lt Nat _ (L + 1 + 1 + 1 + 1 + 1 + 1) L ∨ True := Or.inr trivial
                have hal2 : as.length = 5 := by have := hPA.1; simpa [hdl] using this
                have oDp := Off1.mem o6
                clear N6 o6 lDp
                dsimp only
                k_extra "mine stepsC"
                k_here; k_dflt (refine LCp.ListComp_P (F₀ := by k_asm) (by with_unfolding_all rfl) (by decide) (by rfl) (by decide) (by rfl) (by rfl) (by decide) ?_)
                k_extra "mine stepsC"
                obtain ⟨LE2, hLE2⟩ : ∃ LE2 : List (Addr × Obj), LE2 = (Dp, listOf (refs as) (as.map Value.ref).length) :: (pb, listOf #[] e2') :: (dl, lexD w9 k1 k2 k3 k4 tl2 tw ln fs pb) :: (l, listOf #[.int ((p2 : Nat) : Int) u3] n2) :: (Dw, listOf (strsL ws) nw) :: (D, listOf (intsA ds) 0) :: (L + 1 + 1 + 1 + 1 + 1 + 1, oN) :: (L + 1 + 1 + 1 + 1 + 1, oR) :: (L + 1 + 1 + 1 + 1, oM2) :: (L + 1 + 1 + 1, oX2) :: (L + 1 + 1, oW2) :: (L + 1, oD) :: R2 := ⟨_, rfl⟩
                rw [← hLE2] at N7
                have mDp : (Dp, listOf (refs as) (as.map Value.ref).length) ∈ LE2 := by rw [hLE2]; exact .head _
                have mLR2 : ∀ q ∈ R2, q ∈ LE2 := fun q hq => by rw [hLE2]; simp [hq]
                refine LCp.SrcLP.ledger (by rfl) (by k_asm) N7 mDp (by simp [refs, hal2, sizeLine]) ?_
                intro g6
                clear N7
                refine CompRestP.ind (fun i ys news1 => ∃ (T2 : List (Addr × Obj)) (bs : List Addr) (qa qb : Addr → Int), ys = bs.map Value.ref ∧ news1 = T2 ++ LE2 ∧ (∀ q ∈ T2, @LT.lt Nat _ Dm q.1) ∧ (∀ b ∈ bs, PV T2 qa qb b) ∧ nms qa qb bs = ((ds.take i).map fun x => Mine.tw (plW (wd x.1)))) ⟨[], [], fun _ => 0, fun _ => 0, rfl, rfl, (by intro q hq; cases hq), (by intro a ha; cases ha), rfl⟩ ?step ?fin
                case step =>
                  -- [[
                  intro i ys news1 v hi hJ hv
                  obtain ⟨T2, bs, qa, qb, rfl, hn1, hT2, hit, heq⟩ := hJ
                  have hia : i < as.length := by simpa [refs] using hi
                  have hid : i < ds.length := by omega
                  have hv' : v = .ref as[i] := by simpa [refs, hia] using hv.symm
                  obtain ⟨ta, tb, nn, mem⟩ := hPA.2 i as[i] (plW (wd (ds[i]).1)) (List.getElem?_eq_getElem hia) (by rw [List.getElem?_map, List.getElem?_eq_getElem hid]; rfl)
                  have hnext : (ds.take (i + 1)).map (fun x => Mine.tw (plW (wd x.1))) = (ds.take i).map (fun x => Mine.tw (plW (wd x.1))) ++ [Mine.tw (plW (wd (ds[i]).1))] := by
                    rw [List.take_succ_eq_append_getElem hid, List.map_append]; rfl
                  refine ⟨as[i], _, _, _, _, hv', by rw [hn1]; exact List.mem_append.mpr (.inr (mLR2 _ mem)), rfl, rfl, ?_⟩
                  intro I oI C oC Da m₂ h tk E' hC hx hx2 F6 N6 off ne
                  have bnd : (-7 < (plW (wd (ds[i]).1)).1 ∧ (plW (wd (ds[i]).1)).1 < 7) ∧ (-7 < (plW (wd (ds[i]).1)).2 ∧ (plW (wd (ds[i]).1)).2 < 7) := by
                    have s1' := sev7 (ds[i]).1
                    have s2' := sev7 ((ds[i]).1.fdiv 7)
                    have s3' := sev7 ((ds[i]).1.fdiv 49)
                    unfold plW wd
                    unfold Seven at s1' s2' s3'
                    dsimp only
                    omega
                  generalize plW (wd (ds[i]).1) = pq at hx hx2 hnext bnd
                  obtain ⟨pq1, pq2⟩ := pq
                  dsimp only at hx hx2 bnd
                  dsimp only
                  k_extra "mine steps"
                  rename Fr _ _ _ _ => F9
                  rename News _ _ _ _ => N9
                  rename (_ ∧ _ ∧ _ ∧ AllLt _ news1) => lz
                  have lz4 := ktn_ltOf lz.2.2.2
                  obtain ⟨pa2, pb2, q1, q2⟩ := PV.grow hit (fun q hq => lz4 q (by rw [hn1]; exact List.mem_append.mpr (.inl hq)))
                  refine end_one F9 N9 (LCg.Off3.of off) ⟨Nat.ne_of_gt lz.1, Nat.ne_of_gt lz.2.1, Nat.ne_of_gt lz.2.2.1⟩ (Or.inr ⟨_, .tail _ (by rw [hn1]; exact List.mem_append.mpr (.inr mDp)), rfl, _, rfl⟩) ⟨_ :: T2, bs ++ [_], pa2, pb2, by simp, by rw [hn1]; rfl, List.forall_mem_cons.mpr ⟨lz4 _ (by rw [hn1]; exact List.mem_append.mpr (.inr (mLR2 _ mDm2))), hT2⟩, q1, by rw [q2, hnext, heq]; rfl⟩
                  -- ]]
                case fin =>
                  intro ys news1 hJ
                  obtain ⟨T2, bs, qa, qb, rfl, rfl, hT2, hitb, heqb⟩ := hJ
                  rw [List.take_of_length_le (by simp [refs, hal2, hdl])] at heqb
                  intro Db h7 tk7 F7 N7 o7
                  dsimp only
                  have hbl : bs.length = 5 := by have := congrArg List.length heqb; simpa [nms, hdl] using this
                  have oDb := Off1.mem o7
                  obtain ⟨R3, hR3⟩ : ∃ R3 : List (Addr × Obj), R3 = (Dp, listOf (refs as) (as.map Value.ref).length) :: (Db, listOf (refs bs) (bs.map Value.ref).length) :: (R2 ++ T2) := ⟨_, rfl⟩
                  have mR3 : ∀ q ∈ R2, q ∈ R3 := fun q hq => by rw [hR3]; exact .tail _ (.tail _ (List.mem_append.mpr (.inl hq)))
                  have mT3 : ∀ q ∈ T2, q ∈ R3 := fun q hq => by rw [hR3]; exact .tail _ (.tail _ (List.mem_append.mpr (.inr hq)))
                  have mDp3 : (Dp, listOf (refs as) (as.map Value.ref).length) ∈ R3 := by rw [hR3]; exact .head _
                  have mDb3 : (Db, listOf (refs bs) (bs.map Value.ref).length) ∈ R3 := by rw [hR3]; exact .tail _ (.head _)
                  have inL : ∀ q ∈ (pb, listOf #[] e2') :: (dl, lexD w9 k1 k2 k3 k4 tl2 tw ln fs pb) :: (l, listOf #[.int ((p2 : Nat) : Int) u3] n2) :: (Dw, listOf (strsL ws) nw) :: (D, listOf (intsA ds) 0) :: (L + 1 + 1 + 1 + 1 + 1 + 1, oN) :: (L + 1 + 1 + 1 + 1 + 1, oR) :: (L + 1 + 1 + 1 + 1, oM2) :: (L + 1 + 1 + 1, oX2) :: (L + 1 + 1, oW2) :: (L + 1, oD) :: R2, q ∈ LE2 := fun q hq => by rw [hLE2]; exact .tail _ hq
                  have offD : ∀ q ∈ (pb, listOf #[] e2') :: (dl, lexD w9 k1 k2 k3 k4 tl2 tw ln fs pb) :: (l, listOf #[.int ((p2 : Nat) : Int) u3] n2) :: (Dw, listOf (strsL ws) nw) :: (D, listOf (intsA ds) 0) :: (L + 1 + 1 + 1 + 1 + 1 + 1, oN) :: (L + 1 + 1 + 1 + 1 + 1, oR) :: (L + 1 + 1 + 1 + 1, oM2) :: (L + 1 + 1 + 1, oX2) :: (L + 1 + 1, oW2) :: (L + 1, oD) :: ([] : List (Addr × Obj)), @Ne Nat q.1 Dp ∧ @Ne Nat q.1 Db := by
                    intro q hq
                    subst hLED
                    exact ⟨oDp q (List.mem_append.mpr (.inr (mem_at [1, 2, 3, 4, 5, 6, 7, 8, 9, 10, 11] q hq))), oDb q (List.mem_append.mpr (.inr (inL q (mem_at [0, 1, 2, 3, 4, 5, 6, 7, 8, 9, 10] q hq))))⟩
                  have g5 := offD (L + 1 + 1 + 1 + 1 + 1, oR) (by k_extra "mine mem")
                  have g6 := offD (L + 1 + 1 + 1 + 1 + 1 + 1, oN) (by k_extra "mine mem")
                  have nT : ∀ c : Nat, c ≤ L + 6 → (∀ q ∈ R2, @Ne Nat q.1 c) → @Ne Nat Dp c → @Ne Nat Db c → ∀ q ∈ R3, q.1 ≠ c := by
                    intro c hc hq2 h1 h2 q hq
                    rw [hR3] at hq
                    rcases List.mem_cons.mp hq with h | hq
                    · subst h; exact h1
                    · rcases List.mem_cons.mp hq with h | hq
                      · subst h; exact h2
                      · rcases List.mem_append.mp hq with hq | hq
                        · exact hq2 q hq
                        · exact Nat.ne_of_gt (Nat.lt_of_le_of_lt hc (Nat.lt_trans lD6 (hT2 q hq)))
                  have nT5 : ∀ q ∈ R3, q.1 ≠ L + 1 + 1 + 1 + 1 + 1 := nT _ (by omega) nS5 (Ne.symm g5.1) (Ne.symm g5.2)
                  have nT6 : ∀ q ∈ R3, q.1 ≠ L + 1 + 1 + 1 + 1 + 1 + 1 := nT _ (by omega) nS6 (Ne.symm g6.1) (Ne.symm g6.2)
                  have hPR : PairsAt R3 (as ++ bs) (RW ds) := by
                    refine (hPA.mono mR3).app ?_
                    have := (PairsAt.of hitb).mono mT3
                    rw [heqb] at this
                    exact this
                  have N8 : News g L h7 ((pb, listOf #[] e2') :: (dl, lexD w9 k1 k2 k3 k4 tl2 tw ln fs pb) :: (l, listOf #[.int ((p2 : Nat) : Int) u3] n2) :: (Dw, listOf (strsL ws) nw) :: (D, listOf (intsA ds) 0) :: (L + 1 + 1 + 1 + 1 + 1 + 1, oN) :: (L + 1 + 1 + 1 + 1 + 1, oR) :: (L + 1 + 1 + 1 + 1, oM2) :: (L + 1 + 1 + 1, oX2) :: (L + 1 + 1, oW2) :: (L + 1, oD) :: R3) := by
                    rw [hR3]
                    subst hLE2
                    exact News.at_ (News.rot N7) [2, 3, 4, 5, 6, 7, 8, 9, 10, 11, 12, 1, 0] 13
                  clear N7 o7
                  k_here
                  have mem3 : (Dp, listOf (refs as) (as.map Value.ref).length) ∈ (pb, listOf #[] e2') :: (dl, lexD w9 k1 k2 k3 k4 tl2 tw ln fs pb) :: (l, listOf #[.int ((p2 : Nat) : Int) u3] n2) :: (Dw, listOf (strsL ws) nw) :: (D, listOf (intsA ds) 0) :: (L + 1 + 1 + 1 + 1 + 1 + 1, oN) :: (L + 1 + 1 + 1 + 1 + 1, oR) :: (L + 1 + 1 + 1 + 1, oM2) :: (L + 1 + 1 + 1, oX2) :: (L + 1 + 1, oW2) :: (L + 1, oD) :: R3 := by (repeat (first | exact mDp3 | apply List.Mem.tail))
                  have mem4 : (Db, listOf (refs bs) (bs.map Value.ref).length) ∈ (pb, listOf #[] e2') :: (dl, lexD w9 k1 k2 k3 k4 tl2 tw ln fs pb) :: (l, listOf #[.int ((p2 : Nat) : Int) u3] n2) :: (Dw, listOf (strsL ws) nw) :: (D, listOf (intsA ds) 0) :: (L + 1 + 1 + 1 + 1 + 1 + 1, oN) :: (L + 1 + 1 + 1 + 1 + 1, oR) :: (L + 1 + 1 + 1 + 1, oM2) :: (L + 1 + 1 + 1, oX2) :: (L + 1 + 1, oW2) :: (L + 1, oD) :: R3 := by (repeat (first | exact mDb3 | apply List.Mem.tail))
                  k_dflt (refine' add_refs F7 N8 mem3 mem4 (by omega) ?_)
                  intro Dr h8 F8 N9 lr
                  have lr6 : @LT.lt Nat _ (L + 1 + 1 + 1 + 1 + 1 + 1) Dr := lr (L + 1 + 1 + 1 + 1 + 1 + 1, oN) (by k_extra "mine mem")
                  have lrp : @LT.lt Nat _ pb Dr := lr (pb, listOf #[] e2') (by k_extra "mine mem")
                  have lrd : @LT.lt Nat _ dl Dr := lr (dl, lexD w9 k1 k2 k3 k4 tl2 tw ln fs pb) (by k_extra "mine mem")
                  have lrl : @LT.lt Nat _ l Dr := lr (l, listOf #[.int ((p2 : Nat) : Int) u3] n2) (by k_extra "mine mem")
                  clear lr N8
                  dsimp only
                  k_extra "mine stepsC"
                  rename (Obj.data _ = Data.cell (some (Value.ref Dr))) => eR3
                  rename Obj => oR3
                  rename Fr _ _ _ _ => FA
                  rename News _ _ _ _ => NA
                  have FB2 := FA
                  have NB2 : News g L _ ((Dr, listOf (refs (as ++ bs)) 0) :: (pb, listOf #[] e2') :: (dl, lexD w9 k1 k2 k3 k4 tl2 tw ln fs pb) :: (l, listOf #[.int ((p2 : Nat) : Int) u3] n2) :: (Dw, listOf (strsL ws) nw) :: (D, listOf (intsA ds) 0) :: (L + 1 + 1 + 1 + 1 + 1 + 1, oN) :: (L + 1 + 1 + 1 + 1 + 1, oR3) :: (L + 1 + 1 + 1 + 1, oM2) :: (L + 1 + 1 + 1, oX2) :: (L + 1 + 1, oW2) :: (L + 1, oD) :: R3) := NA
                  clear FA NA
                  have mRW : ∀ i, i < 10 → ∃ a x, (as ++ bs)[i]? = some a ∧ (RW ds)[i]? = some x ∧ (∃ ta tb nn, (a, pairO (.int x.1 ta) (.int x.2 tb) nn) ∈ R3) ∧ (-14 < x.1 ∧ x.1 < 14) ∧ (-14 < x.2 ∧ x.2 < 14) := by
                    intro i hi
                    have h1 : i < (as ++ bs).length := by rw [List.length_append]; omega
                    have h2 : i < (RW ds).length := by rw [RW_len hdl]; exact hi
                    exact ⟨_, _, List.getElem?_eq_getElem h1, List.getElem?_eq_getElem h2, hPR.2 i _ _ (List.getElem?_eq_getElem h1) (List.getElem?_eq_getElem h2), RW_le ds _ (List.getElem_mem _)⟩
                  k_here
                  k_dflt (refine assign_N (L := L) (h₀ := g) (news := (Dr, listOf (refs (as ++ bs)) 0) :: (pb, listOf #[] e2') :: (dl, lexD w9 k1 k2 k3 k4 tl2 tw ln fs pb) :: (l, listOf #[.int ((p2 : Nat) : Int) u3] n2) :: (Dw, listOf (strsL ws) nw) :: (D, listOf (intsA ds) 0) :: (L + 1 + 1 + 1 + 1 + 1 + 1, oN) :: (L + 1 + 1 + 1 + 1 + 1, oR3) :: (L + 1 + 1 + 1 + 1, oM2) :: (L + 1 + 1 + 1, oX2) :: (L + 1 + 1, oW2) :: (L + 1, oD) :: R3) FB2 (fRW ds) 10 (by omega) (by rfl) (by with_unfolding_all rfl) (by with_unfolding_all rfl) (by decide) (by rfl) (by decide) (by rfl) (by rfl) (by decide) (by rfl) (by rfl) (by rfl) ?iter0 ?iter1 ?eltH ?fin)
                  case iter0 =>
                    k_extra "mine stepsR"
                    k_here
                    k_dflt (refine range_N FB2 NB2 ?_)
                    intro D h' tk2 t1 t2 t3 F' N' l
                    exact ⟨_, _, _, _, _, _, rfl, rfl, F', N', l⟩
                  case iter1 =>
                    intro i C oC m₂ t h tk LX E' hi hC hx F9 hLX N9
                    k_extra "mine stepsR"
                    k_here
                    k_dflt (refine range_N F9 N9 ?_)
                    intro D h' tk2 t1 t2 t3 F' N' l
                    exact ⟨_, _, _, _, _, _, rfl, rfl, F', N', l⟩
                  case eltH =>
                    intro i k C oC m₂ t tq h tk LX E' hi hk hC hx hx2 F9 hLX N9
                    obtain ⟨ai, xi, hai, hxi, ⟨tai, tbi, nni, mi⟩, bi⟩ := mRW i (by omega)
                    obtain ⟨ak, xk, hak, hxk, ⟨tak, tbk, nnk, mk⟩, bk⟩ := mRW k (by omega)
                    have mRc := hLX (L + 1 + 1 + 1 + 1 + 1, oR3) (by k_extra "mine mem")
                    have mRr := hLX (Dr, listOf (refs (as ++ bs)) 0) (by k_extra "mine mem")
                    have mi' := hLX _ (show (ai, pairO (.int xi.1 tai) (.int xi.2 tbi) nni) ∈ _ by (repeat (first | exact mi | apply List.Mem.tail)))
                    have mk' := hLX _ (show (ak, pairO (.int xk.1 tak) (.int xk.2 tbk) nnk) ∈ _ by (repeat (first | exact mk | apply List.Mem.tail)))
                    have hai' : (as ++ bs)[((i : Nat) : Int).toNat]? = some ai := by rw [Int.toNat_natCast]; exact hai
                    have hak' : (as ++ bs)[((k : Nat) : Int).toNat]? = some ak := by rw [Int.toNat_natCast]; exact hak
                    have hi9 : (0 : Int) ≤ (i : Int) ∧ (i : Int) < 10 := by omega
                    have hk9 : (0 : Int) ≤ (k : Int) ∧ (k : Int) < 10 := by omega
                    clear hLX NB2 FB2 mRW
                    -- [[
                    have eF := fRW_is hxi hxk
                    k_extra "mine stepsE"
                    exact ⟨_, _, _, congrArg (fun z => Value.int z _) eF, rfl, by k_asm, by k_asm⟩
                    -- ]]
                  case fin =>
                    intro Dmi h9 tk9 ys9 hys9 F9 N9 l9
                    have lm6 : @LT.lt Nat _ (L + 1 + 1 + 1 + 1 + 1 + 1) Dmi := l9 (L + 1 + 1 + 1 + 1 + 1 + 1, oN) (by k_extra "mine mem")
                    have lmp : @LT.lt Nat _ pb Dmi := l9 (pb, listOf #[] e2') (by k_extra "mine mem")
                    have lmd : @LT.lt Nat _ dl Dmi := l9 (dl, lexD w9 k1 k2 k3 k4 tl2 tw ln fs pb) (by k_extra "mine mem")
                    have lml : @LT.lt Nat _ l Dmi := l9 (l, listOf #[.int ((p2 : Nat) : Int) u3] n2) (by k_extra "mine mem")
                    have lmr : @LT.lt Nat _ Dr Dmi := l9 (Dr, listOf (refs (as ++ bs)) 0) (by k_extra "mine mem")
                    have mDm9 := mR3 _ mDm2
                    have mDm9N : (Dm, pairO (.int g1 u1) (.int h1 u2) n1) ∈ (Dmi, LCg.lst (ys9.map fun x => Value.int x.1 x.2)) :: (Dr, listOf (refs (as ++ bs)) 0) :: (pb, listOf #[] e2') :: (dl, lexD w9 k1 k2 k3 k4 tl2 tw ln fs pb) :: (l, listOf #[.int ((p2 : Nat) : Int) u3] n2) :: (Dw, listOf (strsL ws) nw) :: (D, listOf (intsA ds) 0) :: (L + 1 + 1 + 1 + 1 + 1 + 1, oN) :: (L + 1 + 1 + 1 + 1 + 1, oR3) :: (L + 1 + 1 + 1 + 1, oM2) :: (L + 1 + 1 + 1, oX2) :: (L + 1 + 1, oW2) :: (L + 1, oD) :: R3 := by (repeat (first | exact mDm9 | apply List.Mem.tail))
                    clear l9 FB2 NB2 mRW
                    k_extra "mine stepsN"
                    have bg9 : -100 < g1 ∧ g1 < 100 := (nm0_le hnm0).1
                    have bh9 : -100 < h1 ∧ h1 < 100 := (nm0_le hnm0).2
                    k_here; k_dflt (refine' (norm_con _ _ _ _ _ _ _ _ _ _ _ mDm9N bg9 bh9) _ _ _ _ _ _ _ _ _ _ _ _ _ _ _ _ _ _ _ ?k1 ?k2 ?k3 ?k4 ?k5 ?kK ?kd ?ku ?_; k_extra "mine use")
                    intro v' news' h' tk' F' N' hr'
                    obtain ⟨hn', t1', hv'⟩ := hr'
                    subst hv'; subst hn'
                    clear F9 N9
                    k_here
                    k_extra "mine stepsN"
                    rename Fr _ _ _ _ => FC
                    rename News _ _ _ _ => NC
                    rename (Obj.data _ = Data.cell (some (Value.int _ _))) => eN2
                    rename Obj => oN2
                    have hcg : cgl 0 (ys9.map Prod.fst) = nrm g1 h1 := min_common hdl hys9 hsm2
                    obtain ⟨km, hkm⟩ : ∃ km, km = (ys9.map fun x => Value.int x.1 x.2).length := ⟨_, rfl⟩
                    obtain ⟨kp, hkp⟩ : ∃ kp, kp = (as.map Value.ref).length := ⟨_, rfl⟩
                    obtain ⟨X9, hX9⟩ : ∃ X9 : List (Addr × Obj), X9 = (Dmi, listOf (intsA ys9) km) :: (Dr, listOf (refs (as ++ bs)) 0) :: (Dw, listOf (strsL ws) nw) :: (D, listOf (intsA ds) 0) :: (L + 1 + 1 + 1 + 1 + 1, oR3) :: (L + 1 + 1, oW2) :: (L + 1, oD) :: R3 := ⟨_, rfl⟩
                    have mX3 : ∀ q ∈ R3, q ∈ X9 := fun q hq => by rw [hX9]; exact .tail _ (.tail _ (.tail _ (.tail _ (.tail _ (.tail _ (.tail _ hq))))))
                    have NC2 : News g L _ ((Dmi, listOf (intsA ys9) (ys9.map fun x => Value.int x.1 x.2).length) :: (Dr, listOf (refs (as ++ bs)) 0) :: (pb, listOf #[] e2') :: (dl, lexD w9 k1 k2 k3 k4 tl2 tw ln fs pb) :: (l, listOf #[.int ((p2 : Nat) : Int) u3] n2) :: (Dw, listOf (strsL ws) nw) :: (D, listOf (intsA ds) 0) :: (L + 1 + 1 + 1 + 1 + 1 + 1, oN2) :: (L + 1 + 1 + 1 + 1 + 1, oR3) :: (L + 1 + 1 + 1 + 1, oM2) :: (L + 1 + 1 + 1, oX2) :: (L + 1 + 1, oW2) :: (L + 1, oD) :: R3) := NC
                    rw [← hkm] at NC2
                    clear NC
                    have NB9 : News g L _ ((pb, listOf #[] e2') :: (dl, lexD w9 k1 k2 k3 k4 tl2 tw ln fs pb) :: (l, listOf #[.int ((p2 : Nat) : Int) u3] n2) :: (L + 1 + 1 + 1 + 1 + 1 + 1, oN2) :: (L + 1 + 1 + 1 + 1, oM2) :: (L + 1 + 1 + 1, oX2) :: (Dmi, listOf (intsA ys9) km) :: (Dr, listOf (refs (as ++ bs)) 0) :: (Dw, listOf (strsL ws) nw) :: (D, listOf (intsA ds) 0) :: (L + 1 + 1 + 1 + 1 + 1, oR3) :: (L + 1 + 1, oW2) :: (L + 1, oD) :: R3) := News.at_ NC2 [2, 3, 4, 7, 9, 10, 0, 1, 5, 6, 8, 11, 12] 13
                    rw [← hX9] at NB9
                    clear NC2
                    clear mDp mDw mDm
                    have mDm : (Dm, pairO (.int g1 u1) (.int h1 u2) n1) ∈ X9 := mX3 _ mDm9
                    have mDp : (Dp, listOf (refs as) kp) ∈ X9 := by rw [hkp]; exact mX3 _ mDp3
                    have mDmi : (Dmi, listOf (intsA ys9) km) ∈ X9 := by rw [hX9]; exact .head _
                    have mRX : ∀ q ∈ R, q ∈ X9 := fun q hq => mX3 _ (mR3 _ (mR2 _ hq))
                    have m107 := mRX _ h107R
                    have mlx := mRX _ hlxR
                    have hPA9 : PairsAt X9 as (ds.map fun x => plW (wd x.1)) := (hPA.mono mR3).mono mX3
                    have nX : ∀ c : Nat, (∀ q ∈ ((Dw, listOf (strsL ws) nw) :: (D, listOf (intsA ds) 0) :: (L + 1 + 1 + 1 + 1 + 1 + 1, oN) :: (L + 1 + 1 + 1 + 1 + 1, oR) :: (L + 1 + 1 + 1 + 1, oM) :: (L + 1 + 1 + 1, oX2) :: (L + 1 + 1, oW2) :: (L + 1, oD) :: R), @Ne Nat q.1 c) → (@LT.lt Nat _ c Dm) → (@Ne Nat c Dp ∧ @Ne Nat c Db) → (@LT.lt Nat _ c Dr) → (@LT.lt Nat _ c Dmi) → ∀ q ∈ ((L + 1 + 1 + 1 + 1 + 1 + 1, oN2) :: (L + 1 + 1 + 1 + 1, oM2) :: (L + 1 + 1 + 1, oX2) :: X9), @Ne Nat q.1 c := by
                      intro c hc h1 h2 h3 h4 q hq
                      have c1 := hc (Dw, listOf (strsL ws) nw) (.head _)
                      have c2 := hc (D, listOf (intsA ds) 0) (.tail _ (.head _))
                      have c3 := hc (L + 1 + 1 + 1 + 1 + 1 + 1, oN) (.tail _ (.tail _ (.head _)))
                      have c4 := hc (L + 1 + 1 + 1 + 1 + 1, oR) (.tail _ (.tail _ (.tail _ (.head _))))
                      have c5 := hc (L + 1 + 1 + 1 + 1, oM) (.tail _ (.tail _ (.tail _ (.tail _ (.head _)))))
                      have c6 := hc (L + 1 + 1 + 1, oX2) (.tail _ (.tail _ (.tail _ (.tail _ (.tail _ (.head _))))))
                      have c7 := hc (L + 1 + 1, oW2) (.tail _ (.tail _ (.tail _ (.tail _ (.tail _ (.tail _ (.head _)))))))
                      have c8 := hc (L + 1, oD) (.tail _ (.tail _ (.tail _ (.tail _ (.tail _ (.tail _ (.tail _ (.head _))))))))
                      rw [hX9] at hq
                      simp only [List.mem_cons] at hq
                      rcases hq with h | h | h | h | h | h | h | h | h | h | hq
                      · subst h; exact c3
                      · subst h; exact c5
                      · subst h; exact c6
                      · subst h; exact Nat.ne_of_gt h4
                      · subst h; exact Nat.ne_of_gt h3
                      · subst h; exact c1
                      · subst h; exact c2
                      · subst h; exact c4
                      · subst h; exact c7
                      · subst h; exact c8
                      · rw [hR3] at hq
                        rcases List.mem_cons.mp hq with h | hq
                        · subst h; exact Ne.symm h2.1
                        rcases List.mem_cons.mp hq with h | hq
                        · subst h; exact Ne.symm h2.2
                        rcases List.mem_append.mp hq with hq | hq
                        rotate_left
                        · exact Nat.ne_of_gt (Nat.lt_trans h1 (hT2 q hq))
                        rcases aR2 q hq with h | h
                        · exact hc q (.tail _ (.tail _ (.tail _ (.tail _ (.tail _ (.tail _ (.tail _ (.tail _ h))))))))
                        · exact Nat.ne_of_gt (Nat.lt_of_lt_of_le h1 h)
                    have npb9 := nX pb npb lD2 (offD (pb, listOf #[] e2') (.head _)) lrp lmp
                    have LI9 := LI.to hlxR m2R m3R m4R fixR (fun q hq => .tail _ (.tail _ (.tail _ (mRX q hq)))) (nX dl LI.n1 lD3 (offD (dl, lexD w9 k1 k2 k3 k4 tl2 tw ln fs pb) (.tail _ (.head _))) lrd lmd) (nX l LI.n2 lD4 (offD (l, listOf #[.int ((p2 : Nat) : Int) u3] n2) (.tail _ (.tail _ (.head _)))) lrl lml)
                    clear nX mRX mX3 hX9 hkm hkp LI npb hPA
                    clear hR3 hR2 hLED hLE2
                    clear nS5 nS6 nT nT5 nT6 inL offD oDp oDb hPR mem3 mem4 mDm2 mDp3 mDb3 mT2 mT3 mR2 mR3 aR2 mDm9 mDm9N
                    clear hT hT2 hitp hitb heqp heqb mLR2 hys9 hsm
                    have hPA := hPA9
                    have npb := npb9
                    have LI := LI9
                    have FB := FC
                    have NB := NB9
                    have hdp2' := hdp2
                    clear hPA9 npb9 LI9 FC NB9
                    -- TAIL
                    k_here
                    k_extra "mine stepsN"
                    k_here; k_dflt (refine' (common_con _ _ _ _ Dmi ys9 km _ (.tail _ (.tail _ (.tail _ (.tail _ (.tail _ (.tail _ mDmi))))))) _ _ _ _ _ _ _ _ _ _ _ _ _ _ _ _ _ _ _ ?k1 ?k2 ?k3 ?k4 ?k5 ?kK ?kd ?ku ?_; k_extra "mine use")
                    intro v' news' h' tk' F' N' hr'
                    obtain ⟨hn', t2', hv'⟩ := hr'
                    rw [hcg] at hv'
                    subst hv'; subst hn'
                    k_here
                    k_dflt (refine' ne_same rfl ?_)
                    k_extra "mine stepsN"
                    clear FB NB
                    have N2 : News g L _ ((pb, listOf (strsL []) e2') :: (dl, lexD w9 k1 k2 k3 k4 tl2 tw ln fs pb) :: (l, listOf #[.int ((p2 : Nat) : Int) u3] n2) :: (L + 1 + 1 + 1 + 1 + 1 + 1, oN2) :: (L + 1 + 1 + 1 + 1, oM2) :: (L + 1 + 1 + 1, oX2) :: X9) := N'
                    clear N'
                    refine' (next_con w9 _ _ _ cz lx dl fdd fs rd l pb fdx k1 k2 k3 k4 tl2 tw kr u3 ln p2 n2 e2' fr _ ((L + 1 + 1 + 1 + 1 + 1 + 1, oN2) :: (L + 1 + 1 + 1 + 1, oM2) :: (L + 1 + 1 + 1, oX2) :: X9) [] LI npb hcpb hcdl hdp2 (Nat.zero_le _)) _ _ _ _ _ _ _ _ _ _ _ _ _ _ _ _ _ _ _ ?k0 ?k1 ?k2 ?k3 ?k4 ?k5 ?kK ?kd ?ku ?_
                    k_extra "mine useC"
                    intro v' news' h' tk' F1 N1 hr'
                    obtain ⟨w1, w2, n3, tl3, p3, e3, hp3, hv', hn'⟩ := hr'
                    subst hv' hn'
                    dsimp only [qHd]
                    k_extra "mine stepsN"
                    rename Fr _ _ _ _ => F3
                    rename News _ _ _ _ => N3
                    obtain ⟨N, hNq⟩ : ∃ N, N = nrm g1 h1 := ⟨_, rfl⟩
                    rw [← hNq] at eN2
                    k_dflt (refine LCg.Assign_ListComp_U (F₀ := by k_asm) (by rfl) (by with_unfolding_all rfl) (by with_unfolding_all rfl) (by decide) (by rfl) (by decide) (by rfl) (by rfl) (by rfl) ?_)
                    k_extra "mine stepsN"
                    obtain ⟨LED, hLED⟩ : ∃ LED : List (Addr × Obj), LED = ((pb, listOf (strsL (List.tail [])) e3) :: (dl, lexD w9 k1 k2 k3 k4 tl3 tw ln fs pb) :: (l, listOf #[.int ((p3 : Nat) : Int) w2] n3) :: (L + 1 + 1 + 1 + 1 + 1 + 1, oN2) :: (L + 1 + 1 + 1 + 1, oM2) :: (L + 1 + 1 + 1, oX2) :: X9) := ⟨_, rfl⟩
                    rw [← hLED] at N3
                    have mX : ∀ q ∈ X9, q ∈ LED := fun q hq => by rw [hLED]; simp [hq]
                    have mN : (L + 1 + 1 + 1 + 1 + 1 + 1, oN2) ∈ LED := by rw [hLED]; simp
                    have mM : (L + 1 + 1 + 1 + 1, oM2) ∈ LED := by rw [hLED]; simp
                    have mDp' := mX _ mDp
                    have mDm' := mX _ mDm
                    have m107' := mX _ m107
                    have hpart : ∀ (i : Nat) (h : i < ds.length), (tbA (plW (wd (ds[i]).1)).1 (plW (wd (ds[i]).1)).2 g1 h1).fmod N = 0 ∧ (tbB (plW (wd (ds[i]).1)).1 (plW (wd (ds[i]).1)).2 g1 h1).fmod N = 0 := fun i h => by rw [hNq]; exact part_is hsm2 h
                    obtain ⟨bg9, bh9⟩ := nm0_le hnm0
                    refine LCg.CompSrc.ledger (by rfl) (by k_asm) N3 mDp' (by simp [refs, hal2, sizeLine]) ?_
                    intro g5
                    clear N3 F3 LI npb hcg hsm2 hLED mDmi m107 mlx hnm0 hp3 mDp mDm hcpb hcdl hNq
                    refine CompRest.ind (fun i ys news1 => ∃ (bs : List Addr), ys = bs.map Value.ref ∧ (∀ q ∈ LED, q ∈ news1) ∧ bs.length = i ∧ ∀ b ∈ bs, ∃ (x y : Int) (ta tb : Tok) (n : Nat), (b, pairO (.int x ta) (.int y tb) n) ∈ news1 ∧ x.fmod N = 0 ∧ y.fmod N = 0) ⟨[], rfl, fun _ h => h, rfl, (by intro a ha; cases ha)⟩ ?step ?fin
                    case step =>
                      -- [[
                      intro i ys news1 v I oI C oC Da m₂ h tk E' hi hJ hv hC hx F6 N6 off ne
                      obtain ⟨bs, rfl, hsub, hbl, hit⟩ := hJ
                      have hia : i < as.length := by simpa [refs] using hi
                      have hid : i < ds.length := by omega
                      have hv' : v = .ref as[i] := by simpa [refs, hia] using hv.symm
                      subst hv'
                      obtain ⟨ta, tb, nn, mem⟩ := hPA.2 i as[i] (plW (wd (ds[i]).1)) (List.getElem?_eq_getElem hia) (by rw [List.getElem?_map, List.getElem?_eq_getElem hid]; rfl)
                      have bnd := plW_le (ds[i]).1
                      have hpi := hpart i hid
                      have mA := hsub _ (mX _ mem)
                      have mM1 := hsub _ mM
                      have mDm1 := hsub _ mDm'
                      clear hv mem
                      generalize as[i] = a at hx mA
                      generalize plW (wd (ds[i]).1) = pq at mA bnd hpi
                      obtain ⟨pq1, pq2⟩ := pq
                      dsimp only at mA bnd hpi
                      dsimp only
                      k_extra "mine stepsN"
                      k_here; k_dflt (refine' (turned_con _ _ _ _ a Dm pq1 pq2 g1 h1 _ _ _ _ _ _ _ ?ka ?kb ⟨by omega, by omega⟩ ⟨by omega, by omega⟩ bg9 bh9) _ _ _ _ _ _ _ _ _ _ _ _ _ _ _ _ _ _ _ ?k1 ?k2 ?k3 ?k4 ?k5 ?kK ?kd ?ku ?_; k_extra "mine use"; (case ka => (repeat (first | exact mA | apply List.Mem.tail))); (case kb => (repeat (first | exact mDm1 | apply List.Mem.tail))))
                      intro v' news' h' tk' F7 N7 hr'
                      obtain ⟨D9, t1', t2', hv', l9, hn'⟩ := hr'
                      subst hv' hn'
                      k_here
                      k_extra "mine stepsN"
                      rename Fr _ _ _ _ => F9
                      rename News _ _ _ _ => N9
                      have lI := l9 (I, oI) (.head _)
                      have lC := l9 (C, oC) (.tail _ (.head _))
                      have lDa := l9 _ (.tail _ (.tail _ (.head _)))
                      refine end_one F9 N9 (LCg.Off3.of off) ⟨Nat.ne_of_gt lI, Nat.ne_of_gt lC, Nat.ne_of_gt lDa⟩ (Or.inr ⟨_, .tail _ (hsub _ mDp'), rfl, _, rfl⟩) ⟨bs ++ [D9], by simp, fun q hq => .tail _ (hsub q hq), by simp [hbl], ?_⟩
                      intro b hb
                      rcases List.mem_append.mp hb with hb | hb
                      · obtain ⟨x, y, ta, tb, n, h1, h2⟩ := hit b hb
                        exact ⟨x, y, ta, tb, n, .tail _ h1, h2⟩
                      · rw [List.mem_singleton.mp hb]
                        exact ⟨_, _, _, _, _, .head _, hpi⟩
                      -- ]]
                    case fin =>
                      intro ys news1 hJ
                      obtain ⟨bs, rfl, hsub, hbl, hit⟩ := hJ
                      have hbl5 : bs.length = 5 := by rw [hbl]; simp [refs, hal2]
                      intro Dq h6 tk6 F6 N6 o6
                      replace N6 : News g L h6 ((Dq, listOf (refs bs) (bs.map Value.ref).length) :: news1) := N6
                      have mN1 : (L + 1 + 1 + 1 + 1 + 1 + 1, oN2) ∈ (Dq, listOf (refs bs) (bs.map Value.ref).length) :: news1 := .tail _ (hsub _ mN)
                      clear o6 hbl
                      dsimp only
                      k_extra "mine stepsN"
                      k_dflt (refine LCt.ListComp_T (F₀ := by k_asm) (by with_unfolding_all rfl) (by decide) (by rfl) (by decide) (by rfl) ?_)
                      k_extra "mine stepsQ"
                      refine CompRestT.ind (fun i zs news2 => zs = [] ∧ news2 = (Dq, listOf (refs bs) (bs.map Value.ref).length) :: news1) ⟨rfl, rfl⟩ ?step ?fin
                      case step =>
                        intro i zs news2 v I oI C oC Da m₂ h tk E' hi hJ hv hC hx F8 N8 off ne
                        obtain ⟨rfl, rfl⟩ := hJ
                        have hib : i < bs.length := by simpa [refs] using hi
                        have hv' : v = .ref bs[i] := by simpa [refs, hib] using hv.symm
                        subst hv'
                        obtain ⟨x, y, ta, tb, n, m9, hx0, hy0⟩ := hit bs[i] (List.getElem_mem _)
                        clear hv
                        generalize bs[i] = b at hx m9
                        have mN2 : (L + 1 + 1 + 1 + 1 + 1 + 1, oN2) ∈ (I, oI) :: (C, oC) :: (Da, LCg.lst []) :: (Dq, listOf (refs bs) (bs.map Value.ref).length) :: news1 := .tail _ (.tail _ (.tail _ mN1))
                        dsimp only
                        by_cases hN0 : N = 0
                        · subst hN0
                          k_extra "mine stepsN"
                          exact end_none (by k_asm) (by k_asm) (LCg.Off3.of off) (Or.inr ⟨_, .head _, rfl, _, rfl⟩) ⟨rfl, rfl⟩
                        · k_extra "mine stepsN"
                          exact end_none (by k_asm) (by k_asm) (LCg.Off3.of off) (Or.inr ⟨_, .head _, rfl, _, rfl⟩) ⟨rfl, rfl⟩
                      case fin =>
                        intro zs news2 hJ
                        obtain ⟨rfl, rfl⟩ := hJ
                        intro Dz h7 tk7 F7 N7 o7
                        replace N7 : News g L h7 ((Dz, listOf #[] 0) :: (Dq, listOf (refs bs) (bs.map Value.ref).length) :: news1) := N7
                        clear o7 hit
                        have m107Z := hsub _ m107'
                        k_extra "mine stepsN"
                        rename Fr _ _ _ _ => FZ
                        rename News _ _ _ _ => NZ
                        exact Done.mk _ _ ps _ [] FZ (Mine.News.sub NZ (List.forall_mem_cons.mpr ⟨by (repeat (first | exact m107Z | apply List.Mem.tail)), fun q hq => (List.not_mem_nil hq).elim⟩)))

end
end Mine
theorem PySem.Challenge.cw_pg0139_01_holds : PySem.Challenge.rw_pg0139_01.Holds := by
  exact Mine.law_t
