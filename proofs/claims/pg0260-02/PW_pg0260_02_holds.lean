import PyProof.Rows.All
import Wide.All
import OpenK.AllK
import Wide.FinOn
import Lean
import PySem.Challenge.RW_pg0260_02

-- M1
set_option autoImplicit false
set_option genInjectivity false
set_option genSizeOf false
namespace Mine
open PySem

inductive V where
  | none
  | bool (b : Bool)
  | int (i : Int)
  | str (s : List Nat)
  | tup (l : List V)
  | lst (l : List V)
  | rng (n : Int)
  | cell (n : Nat)
  | hdr (v : V)
  | pat (k : Nat)
  deriving Inhabited

noncomputable def V.beqs (a b : List V) : Bool := @decide (a = b) (Classical.propDecidable _)
theorem V.beqs_eq {a b : List V} (h : V.beqs a b = true) : a = b := @of_decide_eq_true _ (Classical.propDecidable _) h
theorem V.beqs_refl (a : List V) : V.beqs a a = true := @decide_eq_true _ (Classical.propDecidable _) rfl
theorem nosome {α : Type} {x : α} {P : Prop} (h : none = some x) : P := nomatch h
theorem someq {α : Type} {x y : α} (h : some x = some y) : x = y := Option.some.inj h
theorem some2 {α β : Type} {x y : α} {u v : β} (h : some (x, u) = some (y, v)) : x = y ∧ u = v := by cases h; exact ⟨rfl, rfl⟩
theorem some3 {α β γ : Type} {x y : α} {u v : β} {p q : γ} (h : some (x, u, p) = some (y, v, q)) : x = y ∧ u = v ∧ p = q := by cases h; exact ⟨rfl, rfl, rfl⟩
theorem om_inv {α β γ : Type} {o : Option α} {g : α → β} {r : β} {u v : γ} (h : o.map (fun z => (g z, u)) = some (r, v)) : ∃ z, o = some z ∧ g z = r ∧ u = v := by
  cases o with
  | none => exact nosome h
  | some x => exact ⟨x, rfl, some2 h⟩
theorem ifsome {α : Type} {p : Prop} [Decidable p] {o : Option α} {r : α} (h : (if p then o else none) = some r) : p ∧ o = some r := by
  by_cases q : p
  · rw [if_pos q] at h; exact ⟨q, h⟩
  · rw [if_neg q] at h; exact nosome h
theorem itesome {α : Type} {p : Prop} [Decidable p] {o u : Option α} {r : α} (h : (if p then o else u) = some r) : (p ∧ o = some r) ∨ (¬p ∧ u = some r) := by
  by_cases q : p
  · rw [if_pos q] at h; exact .inl ⟨q, h⟩
  · rw [if_neg q] at h; exact .inr ⟨q, h⟩
theorem ifnone {α : Type} {p : Prop} [Decidable p] {o : Option α} {r : α} (h : (if p then none else o) = some r) : ¬p ∧ o = some r := by
  by_cases q : p
  · rw [if_pos q] at h; exact nosome h
  · rw [if_neg q] at h; exact ⟨q, h⟩

noncomputable abbrev Hp := List (List V)
noncomputable abbrev En := List (Option V)
noncomputable abbrev Fns := Nat → List V → Hp → Option (V × Hp)

inductive BOp where
  | add | sub | mul | mod | fdiv | pow
  deriving DecidableEq
inductive COp where
  | eq | ne | lt | le | gt | mem | nmem
  deriving DecidableEq
inductive Tgt where
  | one (x : Nat)
  | two (x y : Nat)
inductive Gn where
  | plain | zip | enum | items
  deriving DecidableEq
inductive B1 where
  | len | int | chr | sum | sorted | range | lower | upper
  deriving DecidableEq
inductive B2 where
  | min | join | count | index | search
  deriving DecidableEq

mutual
inductive PE where
  | k (v : V)
  | var (x : Nat)
  | glob (x : Nat) (v : V)
  | bin (op : BOp) (a b : PE)
  | rep (m : Bool) (a b : PE)
  | cmp (op : COp) (a b : PE)
  | isNone (neg : Bool) (a : PE)
  | typeIs (neg : Bool) (ls : Bool) (a : PE)
  | and (l : PEs)
  | or (l : PEs)
  | not (a : PE)
  | neg (a : PE)
  | ite (c a b : PE)
  | idx (a i : PE)
  | sl (a lo hi : PE)
  | tup (l : PEs)
  | lst (m : Bool) (l : PEs)
  | comp (m : Bool) (elt : PE) (t : Tgt) (g : Gn) (a b : PE) (cl : List Nat) (q : Bool) (c : PE)
  | comp2 (elt : PE) (t1 : Tgt) (a1 : PE) (t2 : Tgt) (a2 : PE) (cl : List Nat)
  | call (f : Nat) (l : PEs)
  | b1 (f : B1) (a : PE)
  | b2 (f : B2) (a b : PE)
  | lrange (m : Bool) (a b c : PE)
  | hdrs (a : PE)
inductive PEs where
  | nil
  | cons (e : PE) (r : PEs)
end

mutual
inductive PS where
  | assign (x : Nat) (e : PE)
  | assign2 (x y : Nat) (e : PE)
  | tup (x y : Nat) (e : PE)
  | sub (o i e : PE)
  | aug (x : Nat) (op : BOp) (e : PE)
  | ret (e : PE)
  | expr (e : PE)
  | append (o e : PE)
  | ifs (c : PE) (a b : PSs)
  | loop (t : Tgt) (g : Gn) (a b : PE) (body : PSs)
  | while (n : Nat) (c : PE) (body : PSs)
  | dead
inductive PSs where
  | nil
  | cons (s : PS) (r : PSs)
end


noncomputable def truthV : V → Option Bool
  | .none => some false
  | .bool b => some b
  | .int i => some (i != 0)
  | .str s => if s.length ≤ 2 ^ 16 then some (!s.isEmpty) else none
  | _ => none

noncomputable def listV (H : Hp) : V → Option (List V)
  | .lst l => some l
  | .cell n => H[n]?
  | _ => none

noncomputable def asc (s : List Nat) : Bool := s.all (fun c => decide (c < 128))
noncomputable def clean (s : List Nat) : Bool := s.all (fun c => decide (32 ≤ c) && decide (c < 127))
noncomputable def upTo (n : Nat) : List V := (List.range n).map fun (i : Nat) => V.int (Int.ofNat i)
noncomputable def chars (s : List Nat) : List V := s.map fun c => V.str [c]

noncomputable def small (i : Int) : Bool := Nat.ble i.natAbs 4611686018427387903
noncomputable def rngOk (i : Int) : Bool := Nat.ble i.natAbs 1048575
theorem rngOk_iff {i : Int} : rngOk i = true ↔ -(2 ^ 20 : Int) < i ∧ i < 2 ^ 20 := by unfold rngOk; rw [Nat.ble_eq]; omega

noncomputable def itemsV (H : Hp) : V → Option (List V)
  | .lst l => some l
  | .cell n => H[n]?
  | .tup l => some l
  | .rng n => if rngOk n then some (upTo n.toNat) else none
  | _ => none

noncomputable def stC (a b : Option (List V)) : Bool := a.elim false fun a => b.elim false fun b => V.beqs a b
noncomputable def stableV (v : V) (H H' : Hp) : Bool :=
  match v with
  | .cell n => stC H[n]? H'[n]?
  | _ => true
noncomputable def allSome {α : Type} : List (Option α) → Option (List α)
  | [] => some []
  | some x :: r => (allSome r).map (x :: ·)
  | none :: _ => none

noncomputable def atomPy : V → Option PyData
  | .none => some .none
  | .bool b => some (.bool b)
  | .int i => some (.int i)
  | .str s => if asc s then some (.str ⟨s.toArray⟩) else none
  | _ => none
noncomputable def cellPy (H : Hp) (f : V → Option PyData) (c : Nat) : Option PyData := match H[c]? with
  | some l => (allSome (l.map f)).map .list
  | none => none
noncomputable def seqPy (H : Hp) (f : V → Option PyData) (v : V) : Option PyData := match v with
  | .tup l => (allSome (l.map f)).map .tuple
  | .lst l => (allSome (l.map f)).map .list
  | .cell c => cellPy H f c
  | _ => none
noncomputable def seqLike : V → Bool
  | .tup _ => true
  | .lst _ => true
  | .cell _ => true
  | _ => false
noncomputable def toPy (H : Hp) : Nat → V → Option PyData
  | 0, v => atomPy v
  | n + 1, v => if seqLike v then seqPy H (toPy H n) v else atomPy v

noncomputable def eqV (H : Hp) (a b : V) : Option Bool := (toPy H 8 a).bind fun x => (toPy H 8 b).bind fun y => some (PyData.eqv x y)

noncomputable def listPy : PyData → Option (List PyData)
  | .list ys => some ys
  | _ => none
noncomputable def memV (H : Hp) (a b : V) : Option Bool := (toPy H 8 a).bind fun x => ((toPy H 8 b).bind listPy).bind fun ys => some (ys.any fun y => PyData.eqv y x)

noncomputable def intV : V → Option Int
  | .int s => some s
  | _ => none
noncomputable def strV : V → Option (List Nat)
  | .str s => some s
  | _ => none
noncomputable def int2 {α : Type} (a b : V) (f : Int → Int → Option α) : Option α := (intV a).bind fun i => (intV b).bind fun j => f i j
theorem intV_some {v : V} {i : Int} (h : intV v = some i) : v = .int i := by
  cases v with
  | int j => exact congrArg V.int (someq h)
  | _ => exact nosome h
theorem strV_some {v : V} {i : List Nat} (h : strV v = some i) : v = .str i := by
  cases v with
  | str j => exact congrArg V.str (someq h)
  | _ => exact nosome h
theorem bindsome {α β : Type} {o : Option α} {f : α → Option β} {r : β} (h : o.bind f = some r) : ∃ x, o = some x ∧ f x = some r := by
  cases o with
  | none => exact nosome h
  | some x => exact ⟨x, rfl, h⟩
theorem int2_some {α : Type} {a b : V} {f : Int → Int → Option α} {r : α} (h : int2 a b f = some r) : ∃ i j, a = .int i ∧ b = .int j ∧ f i j = some r := by
  obtain ⟨i, h1, h⟩ := bindsome h
  obtain ⟨j, h2, h⟩ := bindsome h
  exact ⟨i, j, intV_some h1, intV_some h2, h⟩

noncomputable def addV (H : Hp) (a b : V) : Option V := match a with
  | .int a => (intV b).bind fun b => some (.int (a + b))
  | .str a => (strV b).bind fun b => if a.length + b.length ≤ 2 ^ 16 then some (.str (a ++ b)) else none
  | a => (listV H a).bind fun xs => (listV H b).bind fun ys => if xs.length + ys.length ≤ 2 ^ 16 then some (.lst (xs ++ ys)) else none
noncomputable def binV (H : Hp) (op : BOp) (a b : V) : Option V :=
  match op with
  | .add => addV H a b
  | .sub => int2 a b fun a b => some (.int (a - b))
  | .mul => int2 a b fun a b => if small a && small b then some (.int (a * b)) else none
  | .mod => int2 a b fun a b => if b = 0 then none else some (.int (a.fmod b))
  | .fdiv => int2 a b fun a b => if b = 0 then none else if small a then some (.int (a.fdiv b)) else none
  | .pow => int2 a b fun a b => if small a && decide (0 ≤ b) && decide (b ≤ 64) then some (.int (a ^ b.toNat)) else none

noncomputable def cmpV (H : Hp) (op : COp) (a b : V) : Option Bool :=
  match op with
  | .eq => eqV H a b
  | .ne => (eqV H a b).map not
  | .lt => int2 a b fun a b => some (decide (a < b))
  | .le => int2 a b fun a b => some (decide (a ≤ b))
  | .gt => int2 a b fun a b => some (decide (a > b))
  | .mem => memV H a b
  | .nmem => (memV H a b).map not

noncomputable def place (n : Nat) (i : Int) : Option Nat := if small i then seqIndex? i n else none

noncomputable def idxV (H : Hp) (a : V) (i : Int) : Option V :=
  match a with
  | .lst l => (place l.length i).bind fun j => l[j]?
  | .cell n => (H[n]?).bind fun l => (place l.length i).bind fun j => l[j]?
  | .tup l => (place l.length i).bind fun j => l[j]?
  | .str s => (place s.length i).bind fun j => (s[j]?).map fun c => .str [c]
  | _ => none

noncomputable def bnd : V → Option (Option Int)
  | .none => some none
  | .int i => if small i then some (some i) else none
  | _ => none
noncomputable def clamp (n : Nat) (d : Nat) : Option Int → Nat
  | none => d
  | some i => if 0 ≤ i then min i.toNat n else (i + n).toNat
noncomputable def cut {α : Type} (l : List α) (lo hi : Option Int) : List α :=
  let a := clamp l.length 0 lo
  let b := clamp l.length l.length hi
  (l.drop a).take (b - a)

noncomputable def slV (H : Hp) (a lo hi : V) : Option V :=
  match bnd lo, bnd hi with
  | some lo, some hi => match a with
    | .str s => if s.length ≤ 2 ^ 16 then some (.str (cut s lo hi)) else none
    | .lst l => if l.length ≤ 2 ^ 16 then some (.lst (cut l lo hi)) else none
    | .cell n => match H[n]? with
      | some l => if l.length ≤ 2 ^ 16 then some (.lst (cut l lo hi)) else none
      | none => none
    | _ => none
  | _, _ => none

noncomputable def ints? : List V → Option (List Int)
  | [] => some []
  | v :: r => (intV v).bind fun i => (ints? r).bind fun l => some (i :: l)
noncomputable def strs? : List V → Option (List (List Nat))
  | [] => some []
  | v :: r => (strV v).bind fun i => (strs? r).bind fun l => some (i :: l)

noncomputable def insertI (x : Int) : List Int → List Int
  | [] => [x]
  | y :: r => if x ≤ y then x :: y :: r else y :: insertI x r
noncomputable def sortI : List Int → List Int
  | [] => []
  | x :: r => insertI x (sortI r)

noncomputable def lowC (c : Nat) : Nat := if 65 ≤ c ∧ c ≤ 90 then c + 32 else c
noncomputable def lenOf {α : Type} (l : List α) : Option V := if l.length ≤ 2 ^ 16 then some (.int (Int.ofNat l.length)) else none
noncomputable def lenV (H : Hp) (a : V) : Option V := match a with
  | .str s => lenOf s
  | .tup l => lenOf l
  | a => (listV H a).bind lenOf
noncomputable def b1V (H : Hp) (f : B1) (a : V) : Option V :=
  match f with
  | .len => lenV H a
  | .int => (intV a).bind fun i => some (.int i)
  | .chr => none
  | .sum => ((listV H a).bind ints?).bind fun is => if is.all (fun i => decide (-(2 ^ 32 : Int) ≤ i) && decide (i ≤ 2 ^ 32)) ∧ is.length ≤ 64 then some (.int is.sum) else none
  | .sorted => ((listV H a).bind ints?).bind fun is => if is.length < 64 then some (.lst ((sortI is).map V.int)) else none
  | .range => (intV a).bind fun i => some (.rng i)
  | .lower => (strV a).bind fun s => if asc s ∧ s.length ≤ 2 ^ 16 then some (.str (s.map lowC)) else none
  | .upper => none

noncomputable def oneL : List (List Nat) → Option (List Nat)
  | [x] => some x
  | _ => none
theorem oneL_some {l : List (List Nat)} {x : List Nat} (h : oneL l = some x) : l = [x] := by
  cases l with
  | nil => exact nosome h
  | cons y r =>
    cases r with
    | nil => rw [← someq h]
    | cons => exact nosome h
noncomputable def joinV (sep : List Nat) (ss : List (List Nat)) : Option V :=
  if ss.length ≤ 64 ∧ ss.all (fun s => decide (s.length ≤ 64)) ∧ sep.length ≤ 2 then (if sep = [] then some (.str ss.flatten) else (oneL ss).bind fun s => some (.str s)) else none
noncomputable def textsV (H : Hp) (a : V) : Option (List (List Nat)) := (listV H a).bind strs?
noncomputable def patV : V → Option Nat
  | .pat k => some k
  | _ => none
theorem patV_some {v : V} {i : Nat} (h : patV v = some i) : v = .pat i := by
  cases v with
  | pat j => exact congrArg V.pat (someq h)
  | _ => exact nosome h
noncomputable def b2V (H : Hp) (f : B2) (a b : V) : Option V :=
  match f with
  | .min => int2 a b fun a b => some (.int (if b < a then b else a))
  | .join => (strV a).bind fun x => (textsV H b).bind fun ss => joinV x ss
  | .count => none
  | .index => none
  | .search => (patV a).bind fun k => (strV b).bind fun s => if k < 2 ∧ clean s ∧ s.length ≤ 64 then some .none else none

noncomputable def typeIsV (ls : Bool) : V → Option Bool
  | .lst _ | .cell _ => some ls
  | .str _ => some (!ls)
  | _ => none

noncomputable def prV : V → Option (V × V)
  | .tup [a, b] => some (a, b)
  | _ => none
noncomputable def bindT (t : Tgt) (v : V) (ρ : En) : Option En := match t with
  | .one x => some (ρ.set x (some v))
  | .two x y => (prV v).bind fun p => some ((ρ.set x (some p.1)).set y (some p.2))
noncomputable def clearE (cl : List Nat) (ρ : En) : En := cl.foldl (fun r x => r.set x none) ρ
noncomputable def getE (ρ : En) (x : Nat) : Option V := (ρ[x]?).join

noncomputable def zipL (xs ys : List V) : List V := List.zipWith (fun x y => V.tup [x, y]) xs ys
noncomputable def zipV (a b : V) : Option (List V) := match a with
  | .lst xs => (match b with
    | .lst ys => some (zipL xs ys)
    | _ => none)
  | .str xs => (strV b).bind fun ys => if asc xs && asc ys then some (zipL (chars xs) (chars ys)) else none
  | _ => none
noncomputable def enumV : V → Option (List V)
  | .lst xs => some (xs.mapIdx fun i x => V.tup [.int (Int.ofNat i), x])
  | _ => none
noncomputable def itsV : V → Option (List V)
  | .none => some []
  | _ => none
noncomputable def srcV (g : Gn) (a b : V) (H : Hp) : Option (List V) :=
  match g with
  | .plain => itemsV H a
  | .items => itsV a
  | .zip => zipV a b
  | .enum => enumV a

noncomputable def mapC (st : Hp → Bool) (f : V → Hp → Option (List V × Hp)) : List V → Hp → Option (List V × Hp)
  | [], H => some ([], H)
  | v :: r, H => (f v H).bind fun p => if st p.2 then (mapC st f r p.2).bind fun q => some (p.1 ++ q.1, q.2) else none

noncomputable def mkL (m : Bool) (l : List V) (H : Hp) : Option (V × Hp) :=
  if l.length ≤ 2 ^ 16 then (if m then some (.cell H.length, H ++ [l]) else some (.lst l, H)) else none

noncomputable def isNil : PEs → Bool
  | .nil => true
  | .cons _ _ => false
section
variable {α β γ : Type}
noncomputable def ob (o : Option (α × β)) (f : α → β → Option γ) : Option γ := match o with
  | some (x, y) => f x y
  | none => none
theorem ob_elim {o : Option (α × β)} {f : α → β → Option γ} {r : γ} {P : Prop} (h : ob o f = some r) (k : ∀ x y, o = some (x, y) → f x y = some r → P) : P := by
  cases o with
  | none => exact nosome h
  | some p => exact k p.1 p.2 rfl h
theorem ob_eq {o : Option (α × β)} {f : α → β → Option γ} {x : α} {y : β} (h : o = some (x, y)) : ob o f = f x y := by subst h; rfl
theorem bd_elim {o : Option α} {f : α → Option γ} {r : γ} {P : Prop} (h : o.bind f = some r) (k : ∀ x, o = some x → f x = some r → P) : P := by
  cases o with
  | none => exact nosome h
  | some p => exact k p rfl h
theorem bd_eq {o : Option α} {f : α → Option γ} {x : α} (h : o = some x) : o.bind f = f x := by subst h; rfl
noncomputable def obI (o : Option (V × β)) (f : Int → β → Option γ) : Option γ := ob o fun v H => (intV v).bind fun i => f i H
theorem obI_elim {o : Option (V × β)} {f : Int → β → Option γ} {r : γ} {P : Prop} (h : obI o f = some r) (k : ∀ i y, o = some (.int i, y) → f i y = some r → P) : P :=
  ob_elim h fun v y e h => bd_elim h fun i q h => k i y (by rw [e, intV_some q]) h
theorem obI_eq {o : Option (V × β)} {f : Int → β → Option γ} {x : Int} {y : β} (h : o = some (.int x, y)) : obI o f = f x y := by subst h; rfl
noncomputable def lstV : V → Option (List V)
  | .lst l => some l
  | _ => none
theorem lstV_some {v : V} {l : List V} (h : lstV v = some l) : v = .lst l := by
  cases v with
  | lst j => exact congrArg V.lst (someq h)
  | _ => exact nosome h
noncomputable def obL (o : Option (V × β)) (f : List V → β → Option γ) : Option γ := ob o fun v H => (lstV v).bind fun i => f i H
theorem obL_elim {o : Option (V × β)} {f : List V → β → Option γ} {r : γ} {P : Prop} (h : obL o f = some r) (k : ∀ i y, o = some (.lst i, y) → f i y = some r → P) : P :=
  ob_elim h fun v y e h => bd_elim h fun i q h => k i y (by rw [e, lstV_some q]) h
theorem obL_eq {o : Option (V × β)} {f : List V → β → Option γ} {x : List V} {y : β} (h : o = some (.lst x, y)) : obL o f = f x y := by subst h; rfl
noncomputable def hdrV : V → Option V
  | .hdr l => some l
  | _ => none
theorem hdrV_some {v : V} {l : V} (h : hdrV v = some l) : v = .hdr l := by
  cases v with
  | hdr j => exact congrArg V.hdr (someq h)
  | _ => exact nosome h
noncomputable def obH (o : Option (V × β)) (f : V → β → Option γ) : Option γ := ob o fun v H => (hdrV v).bind fun i => f i H
theorem obH_elim {o : Option (V × β)} {f : V → β → Option γ} {r : γ} {P : Prop} (h : obH o f = some r) (k : ∀ i y, o = some (.hdr i, y) → f i y = some r → P) : P :=
  ob_elim h fun v y e h => bd_elim h fun i q h => k i y (by rw [e, hdrV_some q]) h
theorem obH_eq {o : Option (V × β)} {f : V → β → Option γ} {x : V} {y : β} (h : o = some (.hdr x, y)) : obH o f = f x y := by subst h; rfl
noncomputable def celV : V → Option Nat
  | .cell l => some l
  | _ => none
theorem celV_some {v : V} {l : Nat} (h : celV v = some l) : v = .cell l := by
  cases v with
  | cell j => exact congrArg V.cell (someq h)
  | _ => exact nosome h
noncomputable def obC (o : Option (V × β)) (f : Nat → β → Option γ) : Option γ := ob o fun v H => (celV v).bind fun i => f i H
theorem obC_elim {o : Option (V × β)} {f : Nat → β → Option γ} {r : γ} {P : Prop} (h : obC o f = some r) (k : ∀ i y, o = some (.cell i, y) → f i y = some r → P) : P :=
  ob_elim h fun v y e h => bd_elim h fun i q h => k i y (by rw [e, celV_some q]) h
theorem obC_eq {o : Option (V × β)} {f : Nat → β → Option γ} {x : Nat} {y : β} (h : o = some (.cell x, y)) : obC o f = f x y := by subst h; rfl
theorem prV_some {v : V} {l : V × V} (h : prV v = some l) : v = .tup [l.1, l.2] := by
  cases v with
  | tup l =>
    cases l with
    | nil => exact nosome h
    | cons a l =>
      cases l with
      | nil => exact nosome h
      | cons b l =>
        cases l with
        | nil => rw [← someq h]
        | cons => exact nosome h
  | _ => exact nosome h
noncomputable def obP (o : Option (V × β)) (f : V → V → β → Option γ) : Option γ := ob o fun v H => (prV v).bind fun i => f i.1 i.2 H
theorem obP_elim {o : Option (V × β)} {f : V → V → β → Option γ} {r : γ} {P : Prop} (h : obP o f = some r) (k : ∀ a b y, o = some (.tup [a, b], y) → f a b y = some r → P) : P :=
  ob_elim h fun v y e h => bd_elim h fun i q h => k i.1 i.2 y (by rw [e, prV_some q]) h
theorem obP_eq {o : Option (V × β)} {f : V → V → β → Option γ} {a b : V} {y : β} (h : o = some (.tup [a, b], y)) : obP o f = f a b y := by subst h; rfl
noncomputable def obT (o : Option Bool) (t f : Option γ) : Option γ := o.bind fun b => if b then t else f
theorem obT_elim {o : Option Bool} {t f : Option γ} {r : γ} {P : Prop} (h : obT o t f = some r) (k1 : o = some true → t = some r → P) (k2 : o = some false → f = some r → P) : P :=
  bd_elim h fun b q h => by
    cases b with
    | true => exact k1 q h
    | false => exact k2 q h
theorem obT_true {o : Option Bool} {t f : Option γ} (h : o = some true) : obT o t f = t := by subst h; rfl
theorem obT_false {o : Option Bool} {t f : Option γ} (h : o = some false) : obT o t f = f := by subst h; rfl
end
noncomputable def isNoneV (neg : Bool) : V → Bool
  | .none => !neg
  | _ => neg
noncomputable def turnF (t : Tgt) (q : Bool) (pc pe : En → Hp → Option (V × Hp)) (ρ : En) (v : V) (H : Hp) : Option (List V × Hp) :=
  (bindT t v ρ).bind fun ρ' => ob (if q then pc ρ' H else some (.bool true, H)) fun z H => obT (truthV z) ((pe ρ' H).map fun r => ([r.1], r.2)) (some ([], H))
noncomputable def lrangeV (m : Bool) (x y z : Int) (H : Hp) : Option (V × Hp) :=
  if 0 < z ∧ z ≤ 2 ^ 10 ∧ 0 ≤ x ∧ x ≤ 2 ^ 10 ∧ 0 ≤ y ∧ y ≤ 2 ^ 10 then mkL m ((List.range ((y - x + z - 1) / z).toNat).map fun (i : Nat) => V.int (x + z * Int.ofNat i)) H else none
noncomputable def repV (m : Bool) (l : List V) (n : Int) (H : Hp) : Option (V × Hp) := if 0 ≤ n ∧ n ≤ 2 ^ 10 ∧ l.length ≤ 1 then mkL m ((List.replicate n.toNat l).flatten) H else none

mutual
noncomputable def ev (Φ : Fns) : PE → En → Hp → Option (V × Hp)
  | .k v, _, H => some (v, H)
  | .var x, ρ, H => (getE ρ x).map (·, H)
  | .glob _ v, _, H => some (v, H)
  | .bin op a b, ρ, H => ob (ev Φ a ρ H) fun x H => ob (ev Φ b ρ H) fun y H => (binV H op x y).map (·, H)
  | .rep m a b, ρ, H => obL (ev Φ a ρ H) fun l H => obI (ev Φ b ρ H) fun n H => repV m l n H
  | .cmp op a b, ρ, H => ob (ev Φ a ρ H) fun x H => ob (ev Φ b ρ H) fun y H => (cmpV H op x y).map (V.bool ·, H)
  | .isNone neg a, ρ, H => ob (ev Φ a ρ H) fun x H => some (.bool (isNoneV neg x), H)
  | .typeIs neg ls a, ρ, H => ob (ev Φ a ρ H) fun x H => (typeIsV ls x).map fun b => (V.bool (b != neg), H)
  | .and l, ρ, H => evAnd Φ l ρ H
  | .or l, ρ, H => evOr Φ l ρ H
  | .not a, ρ, H => ob (ev Φ a ρ H) fun x H => (truthV x).map fun b => (V.bool (!b), H)
  | .neg a, ρ, H => obI (ev Φ a ρ H) fun i H => some (.int (-i), H)
  | .ite c a b, ρ, H => ob (ev Φ c ρ H) fun x H => obT (truthV x) (ev Φ a ρ H) (ev Φ b ρ H)
  | .idx a i, ρ, H => ob (ev Φ a ρ H) fun x H => obI (ev Φ i ρ H) fun i H => (idxV H x i).map (·, H)
  | .sl a lo hi, ρ, H => ob (ev Φ a ρ H) fun x H => ob (ev Φ lo ρ H) fun l H => ob (ev Φ hi ρ H) fun h H => (slV H x l h).map (·, H)
  | .tup l, ρ, H => ob (evs Φ l ρ H) fun vs H => some (.tup vs, H)
  | .lst m l, ρ, H => ob (evs Φ l ρ H) fun vs H => mkL m vs H
  | .comp m elt t g a b cl q c, ρ, H => ob (ev Φ a ρ H) fun x H => ob (ev Φ b ρ H) fun y H => (srcV g x y H).bind fun items =>
      ob (mapC (stableV x H) (turnF t q (fun ρ H => ev Φ c ρ H) (fun ρ H => ev Φ elt ρ H) (clearE cl ρ)) items H) fun l H => mkL m l H
  | .comp2 elt t1 a1 t2 a2 cl, ρ, H => ob (ev Φ a1 ρ H) fun x H => (srcV .plain x .none H).bind fun items =>
      ob (mapC (stableV x H) (fun v H => (bindT t1 v (clearE cl ρ)).bind fun ρ' => ob (ev Φ a2 ρ' H) fun y H => (srcV .plain y .none H).bind fun its =>
        mapC (stableV y H) (fun u H => (bindT t2 u ρ').bind fun ρ'' => (ev Φ elt ρ'' H).map fun r => ([r.1], r.2)) its H) items H) fun l H => mkL false l H
  | .call f l, ρ, H => ob (evs Φ l ρ H) fun vs H => Φ f vs H
  | .b1 f a, ρ, H => ob (ev Φ a ρ H) fun x H => (b1V H f x).map (·, H)
  | .b2 f a b, ρ, H => ob (ev Φ a ρ H) fun x H => ob (ev Φ b ρ H) fun y H => (b2V H f x y).map (·, H)
  | .lrange m a b c, ρ, H => obI (ev Φ a ρ H) fun x H => obI (ev Φ b ρ H) fun y H => obI (ev Φ c ρ H) fun z H => lrangeV m x y z H
  | .hdrs a, ρ, H => obH (ev Φ a ρ H) fun v H => some (v, H)
noncomputable def evs (Φ : Fns) : PEs → En → Hp → Option (List V × Hp)
  | .nil, _, H => some ([], H)
  | .cons e r, ρ, H => ob (ev Φ e ρ H) fun v H => ob (evs Φ r ρ H) fun vs H => some (v :: vs, H)
noncomputable def evAnd (Φ : Fns) : PEs → En → Hp → Option (V × Hp)
  | .nil, _, _ => none
  | .cons e r, ρ, H => if isNil r then ev Φ e ρ H else ob (ev Φ e ρ H) fun v H => obT (truthV v) (evAnd Φ r ρ H) (some (v, H))
noncomputable def evOr (Φ : Fns) : PEs → En → Hp → Option (V × Hp)
  | .nil, _, _ => none
  | .cons e r, ρ, H => if isNil r then ev Φ e ρ H else ob (ev Φ e ρ H) fun v H => obT (truthV v) (some (v, H)) (evOr Φ r ρ H)
end

inductive Fl where
  | nx
  | rt (v : V)

section
variable {α β : Type}
noncomputable def obx (o : Option (Fl × α × β)) (f : α → β → Option (Fl × α × β)) : Option (Fl × α × β) := match o with
  | none => none
  | some (fl, ρ, H) => (match fl with
    | .nx => f ρ H
    | .rt v => some (.rt v, ρ, H))
theorem obx_elim {o : Option (Fl × α × β)} {f : α → β → Option (Fl × α × β)} {r : Fl × α × β} {P : Prop} (h : obx o f = some r) (k1 : ∀ ρ H, o = some (.nx, ρ, H) → f ρ H = some r → P) (k2 : ∀ v ρ H, o = some (.rt v, ρ, H) → some (Fl.rt v, ρ, H) = some r → P) : P := by
  cases o with
  | none => exact nosome h
  | some p =>
    obtain ⟨fl, ρ, H⟩ := p
    cases fl with
    | nx => exact k1 ρ H rfl h
    | rt v => exact k2 v ρ H rfl h
theorem obx_nx {o : Option (Fl × α × β)} {f : α → β → Option (Fl × α × β)} {ρ : α} {H : β} (h : o = some (.nx, ρ, H)) : obx o f = f ρ H := by subst h; rfl
theorem obx_rt {o : Option (Fl × α × β)} {f : α → β → Option (Fl × α × β)} {v : V} {ρ : α} {H : β} (h : o = some (.rt v, ρ, H)) : obx o f = some (.rt v, ρ, H) := by subst h; rfl
end

noncomputable def forL (st : Hp → Bool) (t : Tgt) (body : En → Hp → Option (Fl × En × Hp)) : List V → En → Hp → Option (Fl × En × Hp)
  | [], ρ, H => some (.nx, ρ, H)
  | v :: r, ρ, H => (bindT t v ρ).bind fun ρ' => obx (body ρ' H) fun ρ1 H1 => if st H1 then forL st t body r ρ1 H1 else none

noncomputable def whileL (c : En → Hp → Option (V × Hp)) (body : En → Hp → Option (Fl × En × Hp)) : Nat → En → Hp → Option (Fl × En × Hp)
  | 0, _, _ => none
  | n + 1, ρ, H => ob (c ρ H) fun x H => obT (truthV x) (obx (body ρ H) fun ρ1 H1 => whileL c body n ρ1 H1) (some (.nx, ρ, H))

noncomputable def augCell (H : Hp) (n : Nat) (b : V) : Option (V × Hp) := (H[n]?).bind fun xs => (listV H b).bind fun ys => if xs.length + ys.length ≤ 2 ^ 16 then some (.cell n, H.set n (xs ++ ys)) else none
noncomputable def augV (H : Hp) (op : BOp) (a b : V) : Option (V × Hp) :=
  match op with
  | .add => (match a with
    | .cell n => augCell H n b
    | a => int2 a b fun a b => some (.int (a + b), H))
  | .sub => int2 a b fun a b => some (.int (a - b), H)
  | _ => none

noncomputable def looseV : V → Option Unit
  | .none => some ()
  | .str _ => some ()
  | _ => none
noncomputable def setV (ρ : En) (H : Hp) (n : Nat) (i : Int) (v : V) : Option (Fl × En × Hp) := (H[n]?).bind fun l => if 0 ≤ i ∧ i < l.length ∧ l.length ≤ 2 ^ 16 then some (.nx, ρ, H.set n (l.set i.toNat v)) else none
noncomputable def appV (ρ : En) (H : Hp) (n : Nat) (v : V) : Option (Fl × En × Hp) := (H[n]?).bind fun l => if l.length ≤ 2 ^ 16 then some (.nx, ρ, H.set n (l ++ [v])) else none

mutual
noncomputable def ex (Φ : Fns) : PS → En → Hp → Option (Fl × En × Hp)
  | .assign x e, ρ, H => ob (ev Φ e ρ H) fun v H => some (.nx, ρ.set x (some v), H)
  | .assign2 x y e, ρ, H => ob (ev Φ e ρ H) fun v H => some (.nx, (ρ.set x (some v)).set y (some v), H)
  | .tup x y e, ρ, H => obP (ev Φ e ρ H) fun a b H => some (.nx, (ρ.set x (some a)).set y (some b), H)
  | .sub o i e, ρ, H => ob (ev Φ e ρ H) fun v H => obC (ev Φ o ρ H) fun n H => obI (ev Φ i ρ H) fun i H => setV ρ H n i v
  | .aug x op e, ρ, H => (getE ρ x).bind fun a => ob (ev Φ e ρ H) fun b H => ob (augV H op a b) fun v H => some (.nx, ρ.set x (some v), H)
  | .ret e, ρ, H => ob (ev Φ e ρ H) fun v H => some (.rt v, ρ, H)
  | .expr e, ρ, H => ob (ev Φ e ρ H) fun v H => (looseV v).bind fun _ => some (.nx, ρ, H)
  | .append o e, ρ, H => obC (ev Φ o ρ H) fun n H => ob (ev Φ e ρ H) fun v H => appV ρ H n v
  | .ifs c a b, ρ, H => ob (ev Φ c ρ H) fun x H => obT (truthV x) (exs Φ a ρ H) (exs Φ b ρ H)
  | .loop t g a b body, ρ, H => ob (ev Φ a ρ H) fun x H => ob (ev Φ b ρ H) fun y H => (srcV g x y H).bind fun items => forL (stableV x H) t (fun ρ H => exs Φ body ρ H) items ρ H
  | .while n c body, ρ, H => whileL (fun ρ H => ev Φ c ρ H) (fun ρ H => exs Φ body ρ H) n ρ H
  | .dead, _, _ => none
noncomputable def exs (Φ : Fns) : PSs → En → Hp → Option (Fl × En × Hp)
  | .nil, ρ, H => some (.nx, ρ, H)
  | .cons s r, ρ, H => obx (ex Φ s ρ H) fun ρ H => exs Φ r ρ H
end

noncomputable def flV : Fl → V
  | .nx => .none
  | .rt v => v
noncomputable def runF (Φ : Fns) (body : PSs) (ρ : En) (H : Hp) : Option (V × Hp) := (exs Φ body ρ H).map fun r => (flV r.1, r.2.2)

end Mine

-- M2
set_option autoImplicit false
namespace Mine
open PySem PySem.W PyProof.Rows

noncomputable abbrev lobj (xs : List Value) (n : Nat) : Obj := { cls := .type "list", data := .seq xs.toArray n }
noncomputable abbrev tobj (xs : List Value) (n : Nat) : Obj := { cls := .type "tuple", data := .seq xs.toArray n }
noncomputable def isSeq (o : Obj) : Prop := (∃ xs n, o = tobj xs n) ∨ ∃ xs n, o = lobj xs n
noncomputable abbrev hkey : Str := Str.ofString "_headers"

noncomputable abbrev sht (s : Shared) (h : Heap) (t : Nat) : Shared := { s with heap := h, toks := t }
structure Cx where
  C : Addr
  pv : Nat → Value
  h₀ : Heap
  mg : Str → Option Value
  mb : Str → Option Value
  fv : Nat → Value
  K : Frag
  gh : List Addr := []
noncomputable abbrev Cx.wg (c : Cx) (g : List Addr) : Cx := { c with gh := g }

mutual
noncomputable def VRel (c : Cx) (h : Heap) (φ : List Addr) : V → Value → Prop
  | .none, v => v = .none
  | .bool b, v => v = .bool b
  | .int i, v => ∃ t, v = .int i t
  | .str s, v => ∃ t, v = .str ⟨s.toArray⟩ t
  | .tup l, v => ∃ a xs n, v = .ref a ∧ h.get? a = some (tobj xs n) ∧ a ∉ c.gh ∧ VRels c h φ l xs
  | .lst l, v => ∃ a xs n, v = .ref a ∧ h.get? a = some (lobj xs n) ∧ a ∉ φ ∧ a ∉ c.gh ∧ VRels c h φ l xs
  | .rng n, v => ∃ a t u w, v = .ref a ∧ IsRange h a 0 n 1 t u w
  | .cell k, v => ∃ a, v = .ref a ∧ φ[k]? = some a
  | .hdr x, v => ∃ a dx hh tk n y, v = .ref a ∧ h.get? a = some (instObj c.C dx) ∧ h.get? dx = some (dictOf [⟨hh, .str hkey tk, y⟩] n) ∧ VRel c h φ x y
  | .pat k, v => v = c.pv k
noncomputable def VRels (c : Cx) (h : Heap) (φ : List Addr) : List V → List Value → Prop
  | [], xs => xs = []
  | v :: l, xs => ∃ y r, xs = y :: r ∧ VRel c h φ v y ∧ VRels c h φ l r
end

noncomputable def Dur (o : Obj) : Prop := match o.data with
  | .seq _ _ => True
  | .fields _ => o.cls = .type "range"
  | .plain => True
  | .dict es _ => (nsFind es hkey).isSome = true
  | _ => False

variable {c : Cx} {h h' : Heap} {φ φ' : List Addr}

mutual
theorem VRel.mono (k : ∀ a o, h.get? a = some o → a ∉ φ → a ∉ c.gh → Dur o → h'.get? a = some o) (hc : ∀ a ∈ φ, ∃ xs n, h.get? a = some (lobj xs n)) (hg : ∀ a ∈ c.gh, ∀ o, h.get? a = some o → isSeq o) (e : ∃ ψ, φ' = φ ++ ψ ∧ ∀ a ∈ ψ, h.get? a = none) :
    ∀ {v : V} {x : Value}, VRel c h φ v x → VRel c h' φ' v x
  | .none, _, r => r
  | .bool _, _, r => r
  | .int _, _, r => r
  | .str _, _, r => r
  | .tup l, x, r => by
    obtain ⟨a, xs, n, rfl, h0, h1, hs⟩ := r
    exact ⟨a, xs, n, rfl, k _ _ h0 (fun hm => by obtain ⟨ys, m, q⟩ := hc a hm; rw [h0] at q; simp at q) h1 trivial, h1, VRels.mono k hc hg e hs⟩
  | .lst l, x, r => by
    obtain ⟨a, xs, n, rfl, h0, hn, h1, hs⟩ := r
    refine ⟨a, xs, n, rfl, k _ _ h0 hn h1 trivial, ?_, h1, VRels.mono k hc hg e hs⟩
    obtain ⟨ψ, rfl, hψ⟩ := e
    intro hm
    rcases List.mem_append.mp hm with hm | hm
    · exact hn hm
    · rw [hψ a hm] at h0; cases h0
  | .rng n, x, r => by
    obtain ⟨a, t, u, w, rfl, h0⟩ := r
    exact ⟨a, t, u, w, rfl, k _ _ h0 (fun hm => by obtain ⟨ys, m, q⟩ := hc a hm; rw [h0] at q; simp at q) (fun hm => by rcases hg a hm _ h0 with ⟨_, _, q2⟩ | ⟨_, _, q2⟩ <;> simp at q2) rfl⟩
  | .cell n, x, r => by
    obtain ⟨a, rfl, h0⟩ := r
    obtain ⟨ψ, rfl, hψ⟩ := e
    exact ⟨a, rfl, by rw [List.getElem?_append_left (List.getElem?_eq_some_iff.mp h0).1]; exact h0⟩
  | .hdr v, x, r => by
    obtain ⟨a, dx, hh, tk, n, y, rfl, h1, h2, h3⟩ := r
    exact ⟨a, dx, hh, tk, n, y, rfl, k _ _ h1 (fun hm => by obtain ⟨ys, m, q⟩ := hc a hm; rw [h1] at q; simp at q) (fun hm => by rcases hg a hm _ h1 with ⟨_, _, q2⟩ | ⟨_, _, q2⟩ <;> simp at q2) trivial,
      k _ _ h2 (fun hm => by obtain ⟨ys, m, q⟩ := hc dx hm; rw [h2] at q; simp at q) (fun hm => by rcases hg dx hm _ h2 with ⟨_, _, q2⟩ | ⟨_, _, q2⟩ <;> simp at q2) (by simp [Dur, nsFind, findBy, Value.isStr]), VRel.mono k hc hg e h3⟩
  | .pat _, _, r => r
theorem VRels.mono (k : ∀ a o, h.get? a = some o → a ∉ φ → a ∉ c.gh → Dur o → h'.get? a = some o) (hc : ∀ a ∈ φ, ∃ xs n, h.get? a = some (lobj xs n)) (hg : ∀ a ∈ c.gh, ∀ o, h.get? a = some o → isSeq o) (e : ∃ ψ, φ' = φ ++ ψ ∧ ∀ a ∈ ψ, h.get? a = none) :
    ∀ {l : List V} {xs : List Value}, VRels c h φ l xs → VRels c h' φ' l xs
  | [], _, r => r
  | v :: l, xs, r => by
    obtain ⟨y, t, rfl, h1, h2⟩ := r
    exact ⟨y, t, rfl, VRel.mono k hc hg e h1, VRels.mono k hc hg e h2⟩
end

theorem VRels.nil : VRels c h φ [] [] := rfl
theorem VRels.cons {v : V} {l : List V} {x : Value} {xs : List Value} (a : VRel c h φ v x) (b : VRels c h φ l xs) : VRels c h φ (v :: l) (x :: xs) := ⟨x, xs, rfl, a, b⟩
theorem VRels.length : ∀ {l : List V} {xs : List Value}, VRels c h φ l xs → xs.length = l.length
  | [], _, r => by cases r; rfl
  | v :: l, xs, r => by obtain ⟨y, t, rfl, h1, h2⟩ := r; simp [VRels.length h2]
theorem VRels.append : ∀ {l l' : List V} {xs xs' : List Value}, VRels c h φ l xs → VRels c h φ l' xs' → VRels c h φ (l ++ l') (xs ++ xs')
  | [], _, _, _, r, q => by cases r; exact q
  | v :: l, _, xs, _, r, q => by obtain ⟨y, t, rfl, h1, h2⟩ := r; exact .cons h1 (VRels.append h2 q)
theorem VRels.get : ∀ {l : List V} {xs : List Value} {i : Nat} {v : V}, VRels c h φ l xs → l[i]? = some v → ∃ x, xs[i]? = some x ∧ VRel c h φ v x
  | [], _, _, _, _, q => by simp at q
  | v :: l, xs, 0, w, r, q => by obtain ⟨y, t, rfl, h1, h2⟩ := r; simp at q; subst q; exact ⟨y, rfl, h1⟩
  | v :: l, xs, i + 1, w, r, q => by obtain ⟨y, t, rfl, h1, h2⟩ := r; simp at q; simpa using VRels.get h2 q
theorem VRels.get' {l : List V} {xs : List Value} {i : Nat} {x : Value} (r : VRels c h φ l xs) (q : xs[i]? = some x) : ∃ v, l[i]? = some v ∧ VRel c h φ v x := by
  have hi : i < l.length := r.length ▸ (List.getElem?_eq_some_iff.mp q).1
  obtain ⟨y, h1, h2⟩ := r.get (List.getElem?_eq_getElem hi)
  rw [q] at h1; cases h1
  exact ⟨_, List.getElem?_eq_getElem hi, h2⟩
theorem VRels.set : ∀ {l : List V} {xs : List Value} (i : Nat) {v : V} {x : Value}, VRels c h φ l xs → VRel c h φ v x → VRels c h φ (l.set i v) (xs.set i x)
  | [], _, _, _, _, r, _ => by cases r; rfl
  | w :: l, xs, 0, v, x, r, q => by obtain ⟨y, t, rfl, h1, h2⟩ := r; exact .cons q h2
  | w :: l, xs, i + 1, v, x, r, q => by obtain ⟨y, t, rfl, h1, h2⟩ := r; exact .cons h1 (VRels.set i h2 q)
theorem VRels.drop : ∀ {l : List V} {xs : List Value} (i : Nat), VRels c h φ l xs → VRels c h φ (l.drop i) (xs.drop i)
  | [], _, _, r => by cases r; simp; rfl
  | w :: l, xs, 0, r => r
  | w :: l, xs, i + 1, r => by obtain ⟨y, t, rfl, h1, h2⟩ := r; exact VRels.drop i h2
theorem VRels.take : ∀ {l : List V} {xs : List Value} (i : Nat), VRels c h φ l xs → VRels c h φ (l.take i) (xs.take i)
  | [], _, _, r => by cases r; simp; rfl
  | w :: l, xs, 0, r => by simp; rfl
  | w :: l, xs, i + 1, r => by obtain ⟨y, t, rfl, h1, h2⟩ := r; exact .cons h1 (VRels.take i h2)
theorem VRels.of_get : ∀ {l : List V} {xs : List Value}, xs.length = l.length → (∀ (i : Nat) (v : V) (x : Value), l[i]? = some v → xs[i]? = some x → VRel c h φ v x) → VRels c h φ l xs
  | [], xs, e, _ => List.eq_nil_of_length_eq_zero e
  | v :: l, [], e, _ => by simp at e
  | v :: l, x :: xs, e, k => .cons (k 0 v x rfl rfl) (VRels.of_get (by simpa using e) fun i v x a b => k (i + 1) v x (by simpa using a) (by simpa using b))

structure Wd (c : Cx) (φ : List Addr) (H : Hp) (h : Heap) : Prop where
  ghs : ∀ a ∈ c.gh, c.h₀.get? a = none ∧ a ∉ φ ∧ ∃ o, h.get? a = some o ∧ isSeq o
  stays : ∀ a o, c.h₀.get? a = some o → h.get? a = some o
  fresh : ∀ a ∈ φ, c.h₀.get? a = none
  nodup : φ.Nodup
  len : φ.length = H.length
  cells : ∀ (n : Nat) (l : List V), H[n]? = some l → ∃ a xs k, φ[n]? = some a ∧ h.get? a = some (lobj xs k) ∧ VRels c h φ l xs

theorem Wd.isL {H : Hp} (w : Wd c φ H h) : ∀ a ∈ φ, ∃ xs n, h.get? a = some (lobj xs n) := by
  intro a ha
  obtain ⟨i, hi, rfl⟩ := List.mem_iff_getElem.mp ha
  have hi' : i < H.length := w.len ▸ hi
  obtain ⟨b, xs, k, h1, h2, _⟩ := w.cells i _ (List.getElem?_eq_getElem hi')
  rw [List.getElem?_eq_getElem hi] at h1
  cases h1
  exact ⟨xs, k, h2⟩

theorem Wd.gh {H : Hp} (w : Wd c φ H h) : ∀ a ∈ c.gh, ∀ o, h.get? a = some o → isSeq o := fun a ha o e => by
  obtain ⟨_, _, o', e', q⟩ := w.ghs a ha
  rw [e] at e'; cases e'; exact q

structure Lo (c : Cx) (L : Addr) (m : Str → Option Value) (h : Heap) : Prop where
  ns : h.Ns L m
  nk : m hkey = none
  above : c.h₀.objs.size ≤ L

theorem get_none_of_le {a : Addr} (ha : h.objs.size ≤ a) : h.get? a = none := by
  cases q : h.get? a with
  | none => rfl
  | some o => exact absurd (Heap.lt_size q) (Nat.not_lt.mpr ha)
theorem Lo.new {L : Addr} {m : Str → Option Value} (x : Lo c L m h) : c.h₀.get? L = none := get_none_of_le x.above
theorem Lo.notDur {L : Addr} {m : Str → Option Value} (x : Lo c L m h) {a : Addr} {o : Obj} (e : h.get? a = some o) (d : Dur o) : a ≠ L := by
  rintro rfl
  obtain ⟨o', es, ep, h1, h2, _, h3⟩ := x.ns
  rw [e] at h1; cases h1
  unfold Dur at d
  rw [h2] at d
  dsimp only at d
  rw [h3, x.nk] at d
  cases d
theorem Lo.notCell {H : Hp} {L : Addr} {m : Str → Option Value} (x : Lo c L m h) (w : Wd c φ H h) : L ∉ φ := fun hm => by
  obtain ⟨xs, n, e⟩ := w.isL L hm
  exact x.notDur e trivial rfl

noncomputable def KeepL (L : Addr) (h h' : Heap) : Prop := ∀ a o, h.get? a = some o → a ≠ L → h'.get? a = some o
theorem KeepL.refl (L : Addr) (h : Heap) : KeepL L h h := fun _ _ e _ => e
theorem KeepL.of {L : Addr} (k : ∀ a o, h.get? a = some o → h'.get? a = some o) : KeepL L h h' := fun a o e _ => k a o e

theorem isSeq.dur {o : Obj} (q : isSeq o) : Dur o := by rcases q with ⟨_, _, rfl⟩ | ⟨_, _, rfl⟩ <;> exact trivial
theorem Lo.notSeq {L : Addr} {m : Str → Option Value} (x : Lo c L m h) {a : Addr} {o : Obj} (e : h.get? a = some o) (q : isSeq o) : a ≠ L := x.notDur e q.dur
theorem Wd.keepL {H : Hp} {L : Addr} {m : Str → Option Value} (w : Wd c φ H h) (x : Lo c L m h) (k : KeepL L h h') : Wd c φ H h' where
  ghs := fun a ha => by
    obtain ⟨h1, h2, o, e, q⟩ := w.ghs a ha
    exact ⟨h1, h2, o, k _ _ e (x.notSeq e q), q⟩
  stays := fun a o e => k _ _ (w.stays a o e) fun q => by rw [q, x.new] at e; cases e
  fresh := w.fresh
  nodup := w.nodup
  len := w.len
  cells := fun n l e => by
    obtain ⟨a, xs, m, h1, h2, h3⟩ := w.cells n l e
    exact ⟨a, xs, m, h1, k _ _ h2 (x.notDur h2 trivial), h3.mono (fun a o e _ _ d => k a o e (x.notDur e d)) w.isL w.gh ⟨[], by simp, by simp⟩⟩
theorem VRel.keepL {H : Hp} {L : Addr} {m : Str → Option Value} (w : Wd c φ H h) (x : Lo c L m h) (k : KeepL L h h') {v : V} {y : Value} (r : VRel c h φ v y) : VRel c h' φ v y :=
  r.mono (fun a o e _ _ d => k a o e (x.notDur e d)) w.isL w.gh ⟨[], by simp, by simp⟩
theorem VRels.keepL {H : Hp} {L : Addr} {m : Str → Option Value} (w : Wd c φ H h) (x : Lo c L m h) (k : KeepL L h h') {v : List V} {y : List Value} (r : VRels c h φ v y) : VRels c h' φ v y :=
  r.mono (fun a o e _ _ d => k a o e (x.notDur e d)) w.isL w.gh ⟨[], by simp, by simp⟩

structure Up (L : Addr) (h : Heap) (φ : List Addr) (h' : Heap) (φ' : List Addr) : Prop where
  ext : ∃ ψ, φ' = φ ++ ψ ∧ ∀ a ∈ ψ, h.get? a = none
  keep : ∀ a o, h.get? a = some o → a ∉ φ → a ≠ L → h'.get? a = some o

noncomputable def isCellO (o : Obj) : Prop := ∃ v, o.data = .cell v
theorem Dur.notCell {o : Obj} (d : Dur o) : ¬ isCellO o := fun ⟨v, q⟩ => by unfold Dur at d; rw [q] at d; exact d
theorem isSeq.notCell {o : Obj} (d : isSeq o) : ¬ isCellO o := d.dur.notCell
structure UpC (gx : List Addr) (L : Addr) (h : Heap) (φ : List Addr) (h' : Heap) (φ' : List Addr) : Prop where
  ext : ∃ ψ, φ' = φ ++ ψ ∧ ∀ a ∈ ψ, h.get? a = none
  keep : ∀ a o, h.get? a = some o → a ∉ φ → a ≠ L → ¬ isCellO o → a ∉ gx → h'.get? a = some o
theorem Up.refl (L : Addr) (h : Heap) (φ : List Addr) : Up L h φ h φ := ⟨⟨[], by simp, by simp⟩, fun _ _ e _ _ => e⟩
theorem Up.of_keepL {L : Addr} (k : KeepL L h h') : Up L h φ h' φ := ⟨⟨[], by simp, by simp⟩, fun a o e _ n => k a o e n⟩
theorem Up.trans {L : Addr} {m : Str → Option Value} {h'' : Heap} {φ'' : List Addr} {H : Hp} (x : Up L h φ h' φ') (w' : Wd c φ' H h') (hl : Lo c L m h') (y : Up L h' φ' h'' φ'') : Up L h φ h'' φ'' := by
  obtain ⟨ψ, rfl, h1⟩ := x.ext
  obtain ⟨ψ', rfl, h2⟩ := y.ext
  have alive : ∀ a ∈ φ, h'.get? a ≠ none := by
    intro a ha q
    obtain ⟨xs, n, e⟩ := w'.isL a (List.mem_append_left _ ha)
    rw [q] at e; cases e
  refine ⟨⟨ψ ++ ψ', by simp, fun a ha => ?_⟩, fun a o e hn hL => ?_⟩
  · rcases List.mem_append.mp ha with ha | ha
    · exact h1 a ha
    · cases q : h.get? a with
      | none => rfl
      | some o =>
        by_cases hm : a ∈ φ
        · exact absurd (h2 a ha) (alive a hm)
        · by_cases hL : a = L
          · obtain ⟨o', _, _, e, _⟩ := hl.ns
            rw [← hL, h2 a ha] at e; cases e
          · have := x.keep a o q hm hL
            rw [h2 a ha] at this; cases this
  · refine y.keep a o (x.keep a o e hn hL) (fun hm => ?_) hL
    rcases List.mem_append.mp hm with hm | hm
    · exact hn hm
    · rw [h1 a hm] at e; cases e

theorem VRel.up {L : Addr} {m : Str → Option Value} {H : Hp} (w : Wd c φ H h) (x : Lo c L m h) (u : Up L h φ h' φ') {v : V} {y : Value} (r : VRel c h φ v y) : VRel c h' φ' v y :=
  r.mono (fun a o e hn _ d => u.keep a o e hn (x.notDur e d)) w.isL w.gh u.ext
theorem VRels.up {L : Addr} {m : Str → Option Value} {H : Hp} (w : Wd c φ H h) (x : Lo c L m h) (u : Up L h φ h' φ') {v : List V} {y : List Value} (r : VRels c h φ v y) : VRels c h' φ' v y :=
  r.mono (fun a o e hn _ d => u.keep a o e hn (x.notDur e d)) w.isL w.gh u.ext

theorem VRel.upC {L : Addr} {m : Str → Option Value} {H : Hp} {gx : List Addr} (w : Wd c φ H h) (x : Lo c L m h) (hg : ∀ a ∈ gx, a ∈ c.gh) (u : UpC gx L h φ h' φ') {v : V} {y : Value} (r : VRel c h φ v y) : VRel c h' φ' v y :=
  r.mono (fun a o e hn ng d => u.keep a o e hn (x.notDur e d) d.notCell fun q => ng (hg a q)) w.isL w.gh u.ext
theorem VRels.upC {L : Addr} {m : Str → Option Value} {H : Hp} {gx : List Addr} (w : Wd c φ H h) (x : Lo c L m h) (hg : ∀ a ∈ gx, a ∈ c.gh) (u : UpC gx L h φ h' φ') {v : List V} {y : List Value} (r : VRels c h φ v y) : VRels c h' φ' v y :=
  r.mono (fun a o e hn ng d => u.keep a o e hn (x.notDur e d) d.notCell fun q => ng (hg a q)) w.isL w.gh u.ext

theorem Wd.none0 {H : Hp} (w : Wd c φ H h) {a : Addr} (e : h.get? a = none) : c.h₀.get? a = none := by
  cases q : c.h₀.get? a with
  | none => rfl
  | some o => rw [w.stays a o q] at e; cases e

theorem Wd.setCell {L : Addr} {m : Str → Option Value} {H : Hp} (w : Wd c φ H h) (x : Lo c L m h) {a : Addr} {k : Nat} {xs : List Value} {n : Nat} {l : List V} (hk : φ[k]? = some a)
    (s : ∀ b o, h.get? b = some o → b ≠ a → b ≠ L → h'.get? b = some o) (ha : h'.get? a = some (lobj xs n)) (r : VRels c h φ l xs) :
    Wd c φ (H.set k l) h' ∧ Up L h φ h' φ := by
  have hm : a ∈ φ := List.mem_of_getElem? hk
  have kk : ∀ b o, h.get? b = some o → b ∉ φ → b ≠ L → h'.get? b = some o := fun b o q hn => s b o q (fun e => hn (e ▸ hm))
  have up : ∀ {l : List V} {xs : List Value}, VRels c h φ l xs → VRels c h' φ l xs := fun r => r.mono (fun a o e hn _ d => kk a o e hn (x.notDur e d)) w.isL w.gh ⟨[], by simp, by simp⟩
  have gs : ∀ b ∈ c.gh, c.h₀.get? b = none ∧ b ∉ φ ∧ ∃ o, h'.get? b = some o ∧ isSeq o := fun b hb => by
    obtain ⟨h1, h2, o, e, q⟩ := w.ghs b hb
    exact ⟨h1, h2, o, kk b _ e h2 (x.notSeq e q), q⟩
  refine ⟨⟨gs, fun b o q => kk b o (w.stays b o q) (fun hb => by rw [w.fresh b hb] at q; cases q) (fun q' => by rw [q', x.new] at q; cases q), w.fresh, w.nodup, by simp [w.len], ?_⟩, ⟨⟨[], by simp, by simp⟩, kk⟩⟩
  intro m' l' q
  by_cases e : m' = k
  · subst e
    rw [List.getElem?_set_self (by have := (List.getElem?_eq_some_iff.mp hk).1; rw [← w.len]; exact this)] at q
    cases q
    exact ⟨a, xs, n, hk, ha, up r⟩
  · rw [List.getElem?_set_ne (Ne.symm e)] at q
    obtain ⟨b, ys, i, h1, h2, h3⟩ := w.cells m' l' q
    refine ⟨b, ys, i, h1, s b _ h2 (fun eb => ?_) (x.notDur h2 trivial), up h3⟩
    subst eb
    obtain ⟨i1, e1⟩ := List.getElem?_eq_some_iff.mp h1
    obtain ⟨i2, e2⟩ := List.getElem?_eq_some_iff.mp hk
    exact e ((List.getElem_inj w.nodup).mp (e1.trans e2.symm))

noncomputable def allN (h : Heap) (L : Addr) : List (Addr × Obj) := (List.range h.objs.size).filterMap fun a => if a = L then none else (h.get? a).map (a, ·)
theorem mem_allN {L a : Addr} {o : Obj} (e : h.get? a = some o) (n : a ≠ L) : (a, o) ∈ allN h L :=
  List.mem_filterMap.mpr ⟨a, List.mem_range.mpr (Heap.lt_size e), by rw [if_neg n, e]; rfl⟩
theorem of_allN {L : Addr} {p : Addr × Obj} (e : p ∈ allN h L) : h.get? p.1 = some p.2 ∧ p.1 ≠ L := by
  obtain ⟨a, _, q⟩ := List.mem_filterMap.mp e
  by_cases n : a = L
  · rw [if_pos n] at q; cases q
  · rw [if_neg n] at q
    obtain ⟨o, h1, h2⟩ := Option.map_eq_some_iff.mp q
    subst h2
    exact ⟨h1, n⟩
theorem get_empty (a : Addr) : ({} : Heap).get? a = none := get_none_of_le (Nat.zero_le _)
theorem frAll {L : Addr} {m : Str → Option Value} (x : h.Ns L m) : Fr {} L h m := ⟨x, (fun b o e => by rw [get_empty] at e; cases e), Nat.zero_le _⟩
theorem newsAll (h : Heap) (L : Addr) : News {} L h (allN h L) := fun _ hp => ⟨(of_allN hp).1, (of_allN hp).2, get_empty _⟩
theorem keep_of_news {L : Addr} {news : List (Addr × Obj)} (N : News {} L h' news) (hs : ∀ p ∈ allN h L, p ∈ news) : KeepL L h h' := fun _ _ e n => (N _ (hs _ (mem_allN e n))).1
end Mine

-- M3
set_option autoImplicit false
set_option maxRecDepth 100000
namespace Mine
open PySem PySem.W PyProof.Rows

structure St (c : Cx) (φ : List Addr) (H : Hp) (L : Addr) (m : Str → Option Value) (h : Heap) : Prop where
  w : Wd c φ H h
  l : Lo c L m h

variable {c : Cx} {φ : List Addr} {H : Hp} {L : Addr} {m : Str → Option Value}

theorem St.keepL {h h' : Heap} (x : St c φ H L m h) (k : KeepL L h h') (n : h'.Ns L m) : St c φ H L m h' := ⟨x.w.keepL x.l k, n, x.l.nk, x.l.above⟩
theorem St.ext {h h' : Heap} (x : St c φ H L m h) (k : ∀ a o, h.get? a = some o → h'.get? a = some o) : St c φ H L m h' := x.keepL (.of k) (x.l.ns.at' (k L))
theorem St.push {h : Heap} (x : St c φ H L m h) (o : Obj) : St c φ H L m (h.push o) := x.ext fun _ _ e => Heap.get?_push_of_some o e

noncomputable def Out (c : Cx) (φ : List Addr) (L : Addr) (m : Str → Option Value) (s : Shared) (r : V) (Q : Value → Shared → Prop) : Prop :=
  ∀ val h' tk, KeepL L s.heap h' → h'.Ns L m → VRel c h' φ r val → Q val (sht s h' tk)

section
variable {s : Shared} {r : V} {Q : Value → Shared → Prop}
theorem Out.same (o : Out c φ L m s r Q) (x : St c φ H L m s.heap) {val : Value} {tk : Nat} (v : VRel c s.heap φ r val) : Q val { s with toks := tk } := o val s.heap tk (KeepL.refl L _) x.l.ns v
theorem Out.same' (o : Out c φ L m s r Q) (x : St c φ H L m s.heap) {val : Value} (v : VRel c s.heap φ r val) : Q val s := o val s.heap s.toks (KeepL.refl L _) x.l.ns v
theorem Out.push (o : Out c φ L m s r Q) (x : St c φ H L m s.heap) {ob : Obj} {val : Value} {tk : Nat} (v : VRel c (s.heap.push ob) φ r val) : Q val (sht s (s.heap.push ob) tk) :=
  o val _ tk (.of fun _ _ e => Heap.get?_push_of_some ob e) (x.push ob).l.ns v
end

theorem new_notin {h : Heap} (w : Wd c φ H h) : h.objs.size ∉ φ := fun hm => by
  obtain ⟨xs, n, e⟩ := w.isL _ hm
  exact absurd (Heap.lt_size e) (Nat.lt_irrefl _)

theorem new_notgh {h : Heap} (w : Wd c φ H h) : h.objs.size ∉ c.gh := fun hm => by
  obtain ⟨_, _, o, e, _⟩ := w.ghs _ hm
  exact absurd (Heap.lt_size e) (Nat.lt_irrefl _)

theorem VRel.newList {h : Heap} (x : St c φ H L m h) {l : List V} {xs : List Value} {n : Nat} (r : VRels c h φ l xs) : VRel c (h.push (lobj xs n)) φ (.lst l) (.ref h.objs.size) :=
  ⟨_, xs, n, rfl, Heap.get?_push_size _ rfl, new_notin x.w, new_notgh x.w, r.keepL x.w x.l (.of fun _ _ e => Heap.get?_push_of_some _ e)⟩
theorem VRel.newTup {h : Heap} (x : St c φ H L m h) {l : List V} {xs : List Value} {n : Nat} (r : VRels c h φ l xs) : VRel c (h.push (tobj xs n)) φ (.tup l) (.ref h.objs.size) :=
  ⟨_, xs, n, rfl, Heap.get?_push_size _ rfl, new_notgh x.w, r.keepL x.w x.l (.of fun _ _ e => Heap.get?_push_of_some _ e)⟩

theorem listV_ok {h : Heap} (w : Wd c φ H h) {v : V} {l : List V} {x : Value} (e : listV H v = some l) (r : VRel c h φ v x) : ∃ a xs n, x = .ref a ∧ h.get? a = some (lobj xs n) ∧ VRels c h φ l xs := by
  cases v with
  | lst k =>
    obtain rfl := someq e
    obtain ⟨a, xs, n, rfl, h1, _, _, h2⟩ := r; exact ⟨a, xs, n, rfl, h1, h2⟩
  | cell k =>
    obtain ⟨a, rfl, h1⟩ := r
    obtain ⟨b, xs, n, h2, h3, h4⟩ := w.cells _ _ e
    rw [h1] at h2; cases h2
    exact ⟨a, xs, n, rfl, h3, h4⟩
  | _ => exact nosome e
theorem isList_of {h : Heap} {a : Addr} {xs : List Value} {n : Nat} (e : h.get? a = some (lobj xs n)) : h.IsList a xs.toArray := ⟨_, e, rfl, n, rfl⟩
theorem isTup_of {h : Heap} {a : Addr} {xs : List Value} {n : Nat} (e : h.get? a = some (tobj xs n)) : h.IsTuple a xs.toArray := ⟨_, e, rfl, n, rfl⟩

section
variable {prog : Program} {w : World} {A : Around} {E : Value → Shared → Prop} {s : Shared}

theorem truth_ok {v : V} {b : Bool} {x : Value} {Q : Bool → Shared → Prop} (e : truthV v = some b) (r : VRel c s.heap φ v x) (h : ∀ tk, Q b { s with toks := tk }) : wpAny (model prog w) A (truthy x) Q E s := by
  cases v with
  | none => rw [← someq e] at h; cases r; exact truthy_none (h s.toks)
  | bool b' => rw [← someq e] at h; cases r; exact wpAny_truthy_bool (h s.toks)
  | int i => rw [← someq e] at h; obtain ⟨t, rfl⟩ := r; exact P.truthy_int (h s.toks)
  | str l =>
    · obtain ⟨hl, e⟩ := ifsome e
      rw [← someq e] at h
      obtain ⟨t, rfl⟩ := r
      have h2 : (Str.length ⟨l.toArray⟩ : Int) = l.length := by simp [Str.length]
      refine P.truthy_str (by rw [h2]; omega) ?_
      have : ((Str.length ⟨l.toArray⟩ : Int) != 0) = !l.isEmpty := by rw [h2]; cases l <;> simp; omega
      rw [this]; exact h _
  | _ => exact nosome e

theorem strOk_asc {l : List Nat} (h : asc l = true) : PyData.strOk ⟨l.toArray⟩ = true := by
  unfold PyData.strOk
  simp only [asc, List.all_eq_true, decide_eq_true_eq] at h
  simp only [List.all_toArray, List.all_eq_true, decide_eq_true_eq]
  intro x hx; have := h x hx; omega

theorem allSome_cons {α : Type} {o : Option α} {r : List (Option α)} {l : List α} (h : allSome (o :: r) = some l) : ∃ x t, o = some x ∧ allSome r = some t ∧ l = x :: t := by
  cases o with
  | none => exact nosome h
  | some x =>
    obtain ⟨t, h1, rfl⟩ := Option.map_eq_some_iff.mp (show (allSome r).map (x :: ·) = some l from h)
    exact ⟨x, t, rfl, h1, rfl⟩

structure Rd (h : Heap) (x : Value) (d : PyData) (n : Nat) : Prop where
  r : ∃ as, Reads h x d as
  c : d.canLay0 = true
  d : d.depth ≤ n
structure Rds (h : Heap) (xs : List Value) (ds : List PyData) (n : Nat) : Prop where
  r : ∃ as, ReadsAll h xs ds as
  c : PyData.canLayAll0 ds = true
  d : PyData.depthAll ds ≤ n
theorem reads_list {h : Heap} {n : Nat} {f : V → Option PyData} (ih : ∀ {v : V} {d : PyData} {x : Value}, f v = some d → VRel c h φ v x → Rd h x d n) (l : List V) : ∀ {ds : List PyData} {xs : List Value}, allSome (l.map f) = some ds → VRels c h φ l xs → Rds h xs ds n := by
  induction l with
  | nil => intro ds xs e r; cases e; cases r; exact ⟨⟨[], .nil⟩, rfl, Nat.zero_le _⟩
  | cons v l ih2 =>
    intro ds xs e r
    obtain ⟨d, ds, h1, h2, rfl⟩ := allSome_cons e
    obtain ⟨x, xs, rfl, r1, r2⟩ := r
    have a := ih h1 r1
    have b := ih2 h2 r2
    obtain ⟨as, a1⟩ := a.r
    obtain ⟨bs, b1⟩ := b.r
    exact ⟨⟨as ++ bs, .cons a1 b1⟩, by simp [PyData.canLayAll0, a.c, b.c], Nat.max_le.mpr ⟨a.d, b.d⟩⟩
theorem atom_reads {h : Heap} {n : Nat} {v : V} {d : PyData} {x : Value} (e : atomPy v = some d) (r : VRel c h φ v x) : Rd h x d n := by
  cases v with
  | none => cases e; cases r; exact ⟨⟨_, .none⟩, rfl, Nat.zero_le _⟩
  | bool b => cases e; cases r; exact ⟨⟨_, .bool b⟩, rfl, Nat.zero_le _⟩
  | int i => cases e; obtain ⟨t, rfl⟩ := r; exact ⟨⟨_, .int i t⟩, rfl, Nat.zero_le _⟩
  | str l =>
    obtain ⟨ha, e⟩ := ifsome e
    cases e; obtain ⟨t, rfl⟩ := r
    exact ⟨⟨_, .str _ t⟩, strOk_asc ha, Nat.zero_le _⟩
  | _ => exact nosome e
theorem toPy_reads {h : Heap} (w : Wd c φ H h) (n : Nat) : ∀ {v : V} {d : PyData} {x : Value}, toPy H n v = some d → VRel c h φ v x → Rd h x d n := by
  induction n with
  | zero => exact fun e r => atom_reads e r
  | succ n ih =>
    intro v d x e r
    have list : ∀ {a : Addr} {l : List V} {xs : List Value} {k : Nat} {d : PyData}, h.get? a = some (lobj xs k) → VRels c h φ l xs → (allSome (l.map (toPy H n))).map PyData.list = some d → Rd h (.ref a) d (n + 1) := by
      intro a l xs k d h1 h2 e
      obtain ⟨ds, e2, rfl⟩ := Option.map_eq_some_iff.mp e
      have b := reads_list ih l e2 h2
      exact ⟨b.r.elim fun as a1 => ⟨_, .list h1 rfl rfl a1⟩, b.c, Nat.succ_le_succ b.d⟩
    cases v with
    | tup l =>
      obtain ⟨ds, e2, rfl⟩ := Option.map_eq_some_iff.mp e
      obtain ⟨a, xs, k, rfl, h1, _, h2⟩ := r
      have b := reads_list ih l e2 h2
      exact ⟨b.r.elim fun as a1 => ⟨_, .tuple h1 rfl rfl a1⟩, b.c, Nat.succ_le_succ b.d⟩
    | lst l =>
      obtain ⟨a, xs, k, rfl, h1, _, _, h2⟩ := r
      exact list h1 h2 e
    | cell k =>
      have e : cellPy H (toPy H n) k = some d := e
      unfold cellPy at e
      split at e
      · rename_i l hk
        obtain ⟨a, xs, k, rfl, h1, h2⟩ := listV_ok (v := .cell k) w hk r
        exact list h1 h2 e
      · exact nosome e
    | none => exact atom_reads (v := .none) e r
    | bool b => exact atom_reads (v := .bool b) e r
    | int b => exact atom_reads (v := .int b) e r
    | str b => exact atom_reads (v := .str b) e r
    | _ => exact nosome e

theorem shaped_of {d : PyData} (c : d.canLay0 = true) (h : d.depth ≤ 8) : SeqAt.shaped d = true := by
  unfold SeqAt.shaped; rw [c, Bool.true_and, decide_eq_true_eq]; omega
theorem eqV_some {a b : V} {k : Bool} (e : eqV H a b = some k) : ∃ d f, toPy H 8 a = some d ∧ toPy H 8 b = some f ∧ PyData.eqv d f = k := by
  obtain ⟨d, h1, e⟩ := bindsome e
  obtain ⟨f, h2, e⟩ := bindsome e
  exact ⟨d, f, h1, h2, someq e⟩
theorem eq_ok {a b : V} {k : Bool} {x y : Value} {Q : Value → Shared → Prop} (e : eqV H a b = some k) (wd : Wd c φ H s.heap) (ra : VRel c s.heap φ a x) (rb : VRel c s.heap φ b y) (hu : A.units + 64 < cLine)
    (h : Q (.bool k) s) : wpAny (model prog w) A (compareOp .Eq x y) Q E s := by
  obtain ⟨d, f, h1, h2, rfl⟩ := eqV_some e
  have a := toPy_reads wd 8 h1 ra
  have b := toPy_reads wd 8 h2 rb
  obtain ⟨as, a1⟩ := a.r
  obtain ⟨bs, b1⟩ := b.r
  exact SeqAt.compareEq_shaped a1 b1 (shaped_of a.c a.d) (shaped_of b.c b.d) hu h
theorem ne_ok {a b : V} {k : Bool} {x y : Value} {Q : Value → Shared → Prop} (e : eqV H a b = some k) (wd : Wd c φ H s.heap) (ra : VRel c s.heap φ a x) (rb : VRel c s.heap φ b y) (hu : A.units + 64 < cLine)
    (h : Q (.bool (!k)) s) : wpAny (model prog w) A (compareOp .NotEq x y) Q E s := by
  obtain ⟨d, f, h1, h2, rfl⟩ := eqV_some e
  have a := toPy_reads wd 8 h1 ra
  have b := toPy_reads wd 8 h2 rb
  obtain ⟨as, a1⟩ := a.r
  obtain ⟨bs, b1⟩ := b.r
  exact SeqAt.compareNe_shaped a1 b1 (shaped_of a.c a.d) (shaped_of b.c b.d) hu h
theorem listPy_some {d : PyData} {ys : List PyData} (h : listPy d = some ys) : d = .list ys := by
  cases d with
  | list l => exact congrArg PyData.list (someq h)
  | _ => exact nosome h
theorem mem_ok {a b : V} {k : Bool} {x y : Value} (e : memV H a b = some k) (wd : Wd c φ H s.heap) (ra : VRel c s.heap φ a x) (rb : VRel c s.heap φ b y) (hu : A.units + 64 < cLine) :
    (∀ {Q : Value → Shared → Prop}, Q (.bool k) s → wpAny (model prog w) A (compareOp .In x y) Q E s) ∧ ∀ {Q : Value → Shared → Prop}, Q (.bool (!k)) s → wpAny (model prog w) A (compareOp .NotIn x y) Q E s := by
  obtain ⟨d, h1, e⟩ := bindsome e
  obtain ⟨ys, h2, e⟩ := bindsome e
  obtain ⟨l, h2, h3⟩ := bindsome h2
  rw [listPy_some h3] at h2
  rw [← someq e]
  have a := toPy_reads wd 8 h1 ra
  have b := toPy_reads wd 8 h2 rb
  obtain ⟨as, a1⟩ := a.r
  obtain ⟨bs, b1⟩ := b.r
  have b3 := b.d
  simp only [PyData.canLay0, PyData.depth] at b3
  exact ⟨fun h => SeqAt.in_list_reads b1 a1 b.c a.c (by omega) h, fun h => SeqAt.notIn_list_reads b1 a1 b.c a.c (by omega) h⟩

end
end Mine

-- M4
set_option autoImplicit false
set_option maxRecDepth 100000
namespace Mine
open PySem PySem.W PyProof.Rows

variable {c : Cx} {φ : List Addr} {H : Hp} {L : Addr} {m : Str → Option Value}
variable {prog : Program} {w : World} {A : Around} {E : Value → Shared → Prop} {s : Shared}

noncomputable def bopOf : BOp → Operator
  | .add => .Add
  | .sub => .Sub
  | .mul => .Mult
  | .mod => .Mod
  | .fdiv => .FloorDiv
  | .pow => .Pow
noncomputable def copOf : COp → CmpOp
  | .eq => .Eq
  | .ne => .NotEq
  | .lt => .Lt
  | .le => .LtE
  | .gt => .Gt
  | .mem => .In
  | .nmem => .NotIn

theorem small_iff {i : Int} : small i = true ↔ -(2 ^ 62 : Int) < i ∧ i < 2 ^ 62 := by unfold small; rw [Nat.ble_eq]; omega
theorem small_bits {i : Int} (h : small i = true) : Builtin.Int.intBits i ≤ 64 := by
  rw [small_iff] at h
  exact intBits_le_64 (by omega) (by omega)

theorem add_lists {a b : Addr} {xs ys : List Value} {n k : Nat} {l l' : List V} {Q : Value → Shared → Prop} (x : St c φ H L m s.heap) (ha : s.heap.get? a = some (lobj xs n)) (hb : s.heap.get? b = some (lobj ys k))
    (ra : VRels c s.heap φ l xs) (rb : VRels c s.heap φ l' ys) (hsz : l.length + l'.length ≤ 2 ^ 16) (o : Out c φ L m s (.lst (l ++ l')) Q) : wpAny (model prog w) A (binaryOp .Add (.ref a) (.ref b)) Q E s := by
  refine P.add_list (items := xs.toArray) (items2 := ys.toArray) ha hb ?_ ?_
  · have := VRel.newList (n := 0) x (ra.append rb)
    have e : xs.toArray ++ ys.toArray = (xs ++ ys).toArray := by simp
    rw [e]
    exact o.push x this
  · have h1 := ra.length; have h2 := rb.length
    rw [sizeLine_eq]
    simp only [List.size_toArray]; omega

theorem add_ok {a b r : V} {x y : Value} {Q : Value → Shared → Prop} (e : addV H a b = some r) (st : St c φ H L m s.heap) (ra : VRel c s.heap φ a x) (rb : VRel c s.heap φ b y) (o : Out c φ L m s r Q) :
    wpAny (model prog w) A (binaryOp .Add x y) Q E s := by
  have lists : ((listV H a).bind fun xs => (listV H b).bind fun ys => if xs.length + ys.length ≤ 2 ^ 16 then some (V.lst (xs ++ ys)) else none) = some r → wpAny (model prog w) A (binaryOp .Add x y) Q E s := fun e => by
    obtain ⟨xs, h1, e⟩ := bindsome e
    obtain ⟨ys, h2, e⟩ := bindsome e
    obtain ⟨hl, e⟩ := ifsome e
    obtain rfl := someq e
    obtain ⟨a', vs, n, rfl, g1, g2⟩ := listV_ok st.w h1 ra
    obtain ⟨b', us, k, rfl, g3, g4⟩ := listV_ok st.w h2 rb
    exact add_lists st g1 g3 g2 g4 hl o
  cases a with
  | int i =>
    obtain ⟨j, h2, e⟩ := bindsome e
    obtain rfl := intV_some h2
    obtain rfl := someq e
    obtain ⟨t, rfl⟩ := ra; obtain ⟨u, rfl⟩ := rb
    exact P.add_int (o.same st ⟨_, rfl⟩)
  | str l =>
    obtain ⟨j, h2, e⟩ := bindsome e
    obtain rfl := strV_some h2
    obtain ⟨hl, e⟩ := ifsome e
    obtain rfl := someq e
    obtain ⟨t, rfl⟩ := ra; obtain ⟨u, rfl⟩ := rb
    refine SB.add (fun t' k => ?_) (by rw [sizeLine_eq]; simp only [Str.length, List.size_toArray]; omega)
    exact o.same st ⟨t', by congr 1; apply Str.ext'; rw [Str.cps_append]; simp⟩
  | _ => exact lists e

theorem bin_ok {op : BOp} {a b r : V} {x y : Value} {Q : Value → Shared → Prop} (e : binV H op a b = some r) (st : St c φ H L m s.heap) (ra : VRel c s.heap φ a x) (rb : VRel c s.heap φ b y) (o : Out c φ L m s r Q) :
    wpAny (model prog w) A (binaryOp (bopOf op) x y) Q E s := by
  have two : ∀ (f : Int → Int → Option V), int2 a b f = some r → ∃ i j t u, x = .int i t ∧ y = .int j u ∧ f i j = some r := fun f e => by
    obtain ⟨i, j, rfl, rfl, e⟩ := int2_some e
    obtain ⟨t, rfl⟩ := ra; obtain ⟨u, rfl⟩ := rb
    exact ⟨i, j, t, u, rfl, rfl, e⟩
  cases op with
  | add => exact add_ok e st ra rb o
  | sub =>
    obtain ⟨i, j, t, u, rfl, rfl, e⟩ := two _ e
    obtain rfl := someq e
    exact P.sub_int (o.same st ⟨_, rfl⟩)
  | mul =>
    obtain ⟨i, j, t, u, rfl, rfl, e⟩ := two _ e
    obtain ⟨hs, e⟩ := ifsome e
    obtain rfl := someq e
    rw [Bool.and_eq_true] at hs
    refine P.mul_int (o.same st ⟨_, rfl⟩) ?_
    unfold IntMulOk
    have := small_bits hs.1
    intro hh
    rw [Bool.and_eq_true, Bool.and_eq_true] at hh
    exact absurd (Nat.lt_of_lt_of_le (of_decide_eq_true hh.1.1) this) (by decide)
  | mod =>
    obtain ⟨i, j, t, u, rfl, rfl, e⟩ := two _ e
    obtain ⟨hb, e⟩ := ifnone e
    obtain rfl := someq e
    exact mod_int hb (o.same st ⟨_, rfl⟩)
  | fdiv =>
    obtain ⟨i, j, t, u, rfl, rfl, e⟩ := two _ e
    obtain ⟨hb, e⟩ := ifnone e
    obtain ⟨hs, e⟩ := ifsome e
    obtain rfl := someq e
    refine floordiv_int hb (o.same st ⟨_, rfl⟩) (.inl ?_)
    have h64 := small_bits hs
    unfold Builtin.Int.intBits at h64
    unfold Builtin.divisionGoesByPylong
    dsimp only
    rw [Bool.and_eq_false_iff]
    right
    rw [decide_eq_false_iff_not]
    split at h64
    · rename_i h0; rw [if_pos h0]; omega
    · rename_i h0; rw [if_neg h0]; omega
  | pow =>
    obtain ⟨i, j, t, u, rfl, rfl, e⟩ := two _ e
    obtain ⟨hs, e⟩ := ifsome e
    obtain rfl := someq e
    rw [Bool.and_eq_true, Bool.and_eq_true, decide_eq_true_eq, decide_eq_true_eq] at hs
    refine pow_int hs.1.2 ?_ (o.same st ⟨_, rfl⟩)
    have h64 := small_bits hs.1.1
    exact Int.le_trans (Int.mul_le_mul (Int.ofNat_le.mpr h64) hs.2 hs.1.2 (by decide)) (by decide)

theorem cmp_ok {op : COp} {a b : V} {k : Bool} {x y : Value} {Q : Value → Shared → Prop} (e : cmpV H op a b = some k) (wd : Wd c φ H s.heap) (ra : VRel c s.heap φ a x) (rb : VRel c s.heap φ b y) (hu : A.units + 64 < cLine)
    (h : Q (.bool k) s) : wpAny (model prog w) A (compareOp (copOf op) x y) Q E s := by
  have two : ∀ (f : Int → Int → Option Bool), int2 a b f = some k → ∃ i j t u, x = .int i t ∧ y = .int j u ∧ f i j = some k := fun f e => by
    obtain ⟨i, j, rfl, rfl, e⟩ := int2_some e
    obtain ⟨t, rfl⟩ := ra; obtain ⟨u, rfl⟩ := rb
    exact ⟨i, j, t, u, rfl, rfl, e⟩
  cases op with
  | eq => exact eq_ok e wd ra rb hu h
  | ne =>
    obtain ⟨k', e', rfl⟩ := Option.map_eq_some_iff.mp e
    exact ne_ok e' wd ra rb hu h
  | lt => obtain ⟨i, j, t, u, rfl, rfl, e⟩ := two _ e; obtain rfl := someq e; exact P.lt_int h
  | le => obtain ⟨i, j, t, u, rfl, rfl, e⟩ := two _ e; obtain rfl := someq e; exact P.le_int h
  | gt => obtain ⟨i, j, t, u, rfl, rfl, e⟩ := two _ e; obtain rfl := someq e; exact P.gt_int h
  | mem => exact (mem_ok e wd ra rb hu).1 h
  | nmem =>
    obtain ⟨k', e', rfl⟩ := Option.map_eq_some_iff.mp e
    exact (mem_ok e' wd ra rb hu).2 h

theorem idx_ok {a r : V} {i : Int} {x : Value} {t : Tok} {Q : Value → Shared → Prop} (e : idxV H a i = some r) (st : St c φ H L m s.heap) (ra : VRel c s.heap φ a x) (o : Out c φ L m s r Q) :
    (∃ T id, s.TypeIs x T ∧ typeLookup (.type T) "__getitem__" = pure (some (.builtin id))) ∧ wpAny (model prog w) A (getItem x (.int i t)) Q E s := by
  have lists : ∀ {l : List V} {a' : Addr} {xs : List Value} {n : Nat} {j : Nat}, place l.length i = some j → l[j]? = some r → s.heap.get? a' = some (lobj xs n) → VRels c s.heap φ l xs →
      (∃ T id, s.TypeIs (.ref a') T ∧ typeLookup (.type T) "__getitem__" = pure (some (.builtin id))) ∧ wpAny (model prog w) A (getItem (.ref a') (.int i t)) Q E s := by
    intro l a' xs n j h1 h2 h3 h4
    refine ⟨⟨"list", _, (isList_of h3).typeIs, slot_list_getitem.lookup⟩, ?_⟩
    obtain ⟨y, h5, h6⟩ := h4.get h2
    have hlen := h4.length
    unfold place at h1
    split at h1
    · rename_i hs
      rw [small_iff] at hs
      unfold seqIndex? at h1
      dsimp only at h1
      by_cases h0 : i < 0
      · rw [if_pos h0] at h1
        split at h1
        · rename_i hb
          cases h1
          simp only [Bool.and_eq_true, decide_eq_true_eq] at hb
          exact wpAny_getItem_list_neg (isList_of h3) h0 (by simp only [List.size_toArray]; omega) (by omega) (by simp only [List.size_toArray, List.getElem?_toArray, hlen]; exact h5) (o.same' st h6)
        · cases h1
      · rw [if_neg h0] at h1
        split at h1
        · cases h1
          exact wpAny_getItem_list (isList_of h3) (by omega) (by omega) (by simpa using h5) (o.same' st h6)
        · cases h1
    · cases h1
  cases a with
  | lst l =>
    obtain ⟨j, h1, h2⟩ := Option.bind_eq_some_iff.mp e
    obtain ⟨a', xs, n, rfl, g1, _, _, g2⟩ := ra
    exact lists h1 h2 g1 g2
  | cell k =>
    obtain ⟨l, hl, e⟩ := Option.bind_eq_some_iff.mp e
    obtain ⟨j, h1, h2⟩ := Option.bind_eq_some_iff.mp e
    obtain ⟨a', xs, n, rfl, g1, g2⟩ := listV_ok (v := .cell k) st.w hl ra
    exact lists h1 h2 g1 g2
  | tup l =>
    obtain ⟨j, h1, h2⟩ := Option.bind_eq_some_iff.mp e
    obtain ⟨a', xs, n, rfl, g1, _, g2⟩ := ra
    obtain ⟨y, h5, h6⟩ := g2.get h2
    unfold place at h1
    split at h1
    · rename_i hs
      rw [small_iff] at hs
      refine ⟨⟨"tuple", _, (isTup_of g1).typeIs, F.slot_tuple_getitem.lookup⟩, ?_⟩
      exact P.getItem_tuple (items := xs.toArray) (n := n) g1 (by omega) (by omega) (by simpa [g2.length] using h1) (by simpa using h5) (o.same' st h6)
    · cases h1
  | str l =>
    obtain ⟨j, h1, h2⟩ := Option.bind_eq_some_iff.mp e
    obtain ⟨k, h3, h4⟩ := Option.map_eq_some_iff.mp h2
    subst h4
    obtain ⟨u, rfl⟩ := ra
    unfold place at h1
    split at h1
    · rename_i hs
      rw [small_iff] at hs
      refine ⟨⟨"str", _, typeIs_str _ _ _, F.slot_str_getitem.lookup⟩, ?_⟩
      refine P.getItem_str (i := i) (c := k) ?_ ?_ ?_
      · simp only [Bool.or_eq_false_iff, decide_eq_false_iff_not]; omega
      · simp only [Str.length, List.size_toArray, h1, Option.bind_some]; simpa using h3
      · exact o.same st ⟨_, rfl⟩
    · cases h1
  | _ => exact nosome e
end Mine

-- M5
set_option autoImplicit false
set_option maxRecDepth 100000
namespace Mine
open PySem PySem.W PyProof.Rows

variable {c : Cx} {φ : List Addr} {H : Hp} {L : Addr} {m : Str → Option Value}
variable {prog : Program} {w : World} {A : Around} {E : Value → Shared → Prop} {s : Shared}

theorem pick_range {α : Type} (xs : Array α) (a b : Nat) :
    ((sliceRange (a : Int) (b : Int) 1).filterMap (xs[·]?)) = (xs.toList.drop a).take (b - a) := by
  rw [sliceRange_one, pick_run]

theorem clampN (n : Nat) (i : Int) : max 0 (min (if i < 0 then i + (n : Int) else i) (n : Int)) = ((if 0 ≤ i then min i.toNat n else (i + n).toNat : Nat) : Int) := by
  by_cases h : 0 ≤ i
  · obtain ⟨k, rfl⟩ := Int.eq_ofNat_of_zero_le h
    rw [if_pos h, if_neg (Int.not_lt.mpr h), Int.toNat_natCast, Int.max_eq_right (Int.le_min.mpr ⟨h, Int.natCast_nonneg n⟩)]
    rcases Nat.le_total k n with q | q
    · rw [Nat.min_eq_left q, Int.min_eq_left (Int.ofNat_le.mpr q)]
    · rw [Nat.min_eq_right q, Int.min_eq_right (Int.ofNat_le.mpr q)]
  · have h' := Int.not_le.mp h
    rw [if_neg h, if_pos h', Int.min_eq_left (Int.le_trans (Int.add_le_add_right (Int.le_of_lt h') _) (Int.le_of_eq (Int.zero_add _)))]
    exact (Int.max_comm ..).trans (Int.ofNat_toNat _).symm
theorem bounds_eq (n : Nat) (lo hi : Option Int) : sliceBounds lo hi none n = (((clamp n 0 lo : Nat) : Int), ((clamp n n hi : Nat) : Int), 1) := by
  cases lo <;> cases hi <;> simp only [sliceBounds, clamp, Option.getD_none, gt_iff_lt, Int.zero_lt_one, if_true, clampN] <;> rfl
theorem sind_eq (n : Nat) (lo hi : Option Int) : Builtin.Str.strSliceIndices lo hi 1 n = sliceRange ((clamp n 0 lo : Nat) : Int) ((clamp n n hi : Nat) : Int) 1 := by
  cases lo <;> cases hi <;> simp only [Builtin.Str.strSliceIndices, clamp, gt_iff_lt, Int.zero_lt_one, if_true, clampN] <;> rfl
theorem clamp_le (n d : Nat) (v : Option Int) (hd : d ≤ n) : clamp n d v ≤ n := by
  cases v with
  | none => exact hd
  | some i => simp only [clamp]; split <;> omega

theorem slicePick_eq (xs : List Value) (lo hi : Option Int) : slicePick xs.toArray lo hi none = (cut xs lo hi).toArray := by
  unfold slicePick
  rw [bounds_eq]
  dsimp only
  rw [pick_range]
  simp [cut]

theorem cut_len_eq {α : Type} {l : List α} {lo hi : Option Int} (h : (cut l lo hi).length = l.length) : cut l lo hi = l := by
  unfold cut at *
  simp only [List.length_take, List.length_drop] at h
  have h1 := clamp_le l.length 0 lo (Nat.zero_le _)
  have h2 := clamp_le l.length l.length hi (Nat.le_refl _)
  rcases Nat.eq_zero_or_pos l.length with h0 | h0
  · rw [List.eq_nil_of_length_eq_zero h0]; simp
  · have e1 : clamp l.length 0 lo = 0 := by omega
    have e2 : clamp l.length l.length hi = l.length := by omega
    rw [e1, e2]; simp

theorem picked_eq (l : List Nat) (lo hi : Option Int) : ((Builtin.Str.strSliceIndices lo hi 1 l.length).filterMap (l.toArray[·]?)) = cut l lo hi := by
  rw [sind_eq, pick_range]
  simp [cut]
theorem picked_len (l : List Nat) (lo hi : Option Int) : (Builtin.Str.strSliceIndices lo hi 1 l.length).length = (cut l lo hi).length := by
  rw [sind_eq, sliceRange_one]
  have := clamp_le l.length l.length hi (Nat.le_refl _)
  simp only [cut, List.length_map, List.length_range, List.length_take, List.length_drop]
  omega

theorem bnd_part {v : V} {k : Option Int} {h : Heap} {x : Value} (e : bnd v = some k) (r : VRel c h φ v x) : IsPart x k ∧ ∃ p : Option (Int × Tok), x = partValue p ∧ p.map (·.1) = k := by
  cases v with
  | none => cases e; cases r; exact ⟨.none, none, rfl, rfl⟩
  | int i =>
    obtain ⟨_, e⟩ := ifsome e
    cases e; obtain ⟨t, rfl⟩ := r; exact ⟨.int i t, some (i, t), rfl, rfl⟩
  | _ => exact nosome e

theorem sl_ok {a lo hi r : V} {x vl vu : Value} {p : Addr} {Q : Value → Shared → Prop} (e : slV H a lo hi = some r) (st : St c φ H L m s.heap) (ra : VRel c s.heap φ a x) (rl : VRel c s.heap φ lo vl) (rh : VRel c s.heap φ hi vu)
    (hp : s.heap.get? p = some { cls := .type "slice", data := .fields #[vl, vu, .none] }) (o : Out c φ L m s r Q) :
    (∃ T id, s.TypeIs x T ∧ typeLookup (.type T) "__getitem__" = pure (some (.builtin id))) ∧ wpAny (model prog w) A (getItem x (.ref p)) Q E s := by
  unfold slV at e
  split at e
  · rename_i l h hl hh
    obtain ⟨pl, bl, rfl, el⟩ := bnd_part hl rl
    obtain ⟨pu, bu, rfl, eu⟩ := bnd_part hh rh
    have lists : ∀ {ls : List V} {a' : Addr} {xs : List Value} {n : Nat}, ls.length ≤ 2 ^ 16 → r = .lst (cut ls l h) → s.heap.get? a' = some (lobj xs n) → VRels c s.heap φ ls xs →
        (∃ T id, s.TypeIs (.ref a') T ∧ typeLookup (.type T) "__getitem__" = pure (some (.builtin id))) ∧ wpAny (model prog w) A (getItem (.ref a') (.ref p)) Q E s := by
      intro ls a' xs n h1 h2 h3 h4
      refine ⟨⟨"list", _, (isList_of h3).typeIs, slot_list_getitem.lookup⟩, ?_⟩
      have hlen := h4.length
      refine wpAny_getItem_list_slice (isList_of h3) ⟨_, hp, rfl, rfl⟩ pl pu .none (by simp) ?_ (by rw [sizeLine_eq, List.size_toArray]; omega)
      rw [slicePick_eq]
      subst h2
      have : VRels c s.heap φ (cut ls l h) (cut xs l h) := by
        unfold cut
        rw [hlen]
        exact (h4.drop _).take _
      exact o.push st (VRel.newList (n := 0) st this)
    cases a with
    | str ls =>
      dsimp only at e
      split at e
      · rename_i hsz
        cases e
        obtain ⟨t, rfl⟩ := ra
        refine ⟨⟨"str", _, typeIs_str _ _ _, F.slot_str_getitem.lookup⟩, ?_⟩
        refine wpAny_getItem_str_slice (l := bl) (u := bu) (st := none) ⟨_, hp, rfl, rfl⟩ rfl ?_
        unfold sliceMade slicePicked
        rw [el, eu]
        simp only [Option.map_none, Option.getD_none, Str.length, List.size_toArray, picked_len, picked_eq]
        split
        · rename_i hq
          simp only [beq_self_eq_true, Bool.true_and, beq_iff_eq] at hq
          exact o.same' st ⟨t, by rw [cut_len_eq hq]⟩
        · refine ⟨?_, o.same st ⟨_, rfl⟩⟩
          rw [sizeLine_eq]
          simp only [Str.length, List.size_toArray, cut, List.length_take, List.length_drop]
          omega
      · cases e
    | lst ls =>
      dsimp only at e
      split at e
      · rename_i hsz
        cases e
        obtain ⟨a', xs, n, rfl, g1, _, _, g2⟩ := ra
        exact lists hsz rfl g1 g2
      · cases e
    | cell k =>
      dsimp only at e
      split at e
      · rename_i ls hk
        split at e
        · rename_i hsz
          cases e
          obtain ⟨a', xs, n, rfl, g1, g2⟩ := listV_ok (v := .cell k) st.w hk ra
          exact lists hsz rfl g1 g2
        · cases e
      · cases e
    | _ => simp at e
  · cases e

theorem tail_ops {value slice : Expr} (slice' : Bool) (o i : Value) (h : slice' = false) : ∃ ops, subscripted slice slice' o i = operate ops (getItem o i) := by
  subst h
  unfold subscripted
  split
  · exact ⟨_, rfl⟩
  · rename_i h; cases h
  · exact ⟨_, rfl⟩
theorem sub_tail {value slice : Expr} {o i : Value} {Q : Value → Shared → Prop} (h : (∃ T id, s.TypeIs o T ∧ typeLookup (.type T) "__getitem__" = pure (some (.builtin id))) ∧ wpAny (model prog w) A (getItem o i) Q E s) :
    wpAny (model prog w) A (subscriptTail value slice o i) Q E s := by
  obtain ⟨⟨T, id, h1, h2⟩, h3⟩ := h
  obtain ⟨ops, e⟩ := tail_ops (value := value) (slice := slice) false o i rfl
  exact tail_any h1 h2 h3 e

theorem mapSeq_lobj (xs : List Value) (n : Nat) (f : Array Value → Array Value) : ∃ k, (lobj xs n).mapSeq f = { cls := .type "list", data := .seq (f xs.toArray) k } := ⟨_, rfl⟩

theorem iadd_list {a b : Addr} {xs ys : List Value} {n k : Nat} {Q : Value → Shared → Prop} (ha : s.heap.get? a = some (lobj xs n)) (hb : s.heap.get? b = some (lobj ys k)) (hsz : xs.length + ys.length ≤ 2 ^ 16)
    (h : ∀ h' i, h'.get? a = some (lobj (xs ++ ys) i) → Heap.SameBut a s.heap h' → Q (.ref a) { s with heap := h' }) : wpAny (model prog w) A (inplaceOp .Add (.ref a) (.ref b)) Q E s := by
  have hT : s.TypeIs (.ref a) "list" := (isList_of ha).typeIs
  have hU : s.TypeIs (.ref b) "list" := (isList_of hb).typeIs
  have hi : typeLookup (.type "list") (dunderI "add") = pure (some (.builtin "list.__iadd__")) := F.slot_list_iadd.lookup
  have hq : isSeqSlot (some (.builtin "list.__iadd__")) = true := by decide +kernel
  unfold inplaceOp
  refine wpAny_holding (wpAny_bind (wpAny_typeOf hT ?_))
  have hf : fillsInplaceSlot (.type "list") Operator.Add.info.2 (Operator.Add == .Add) = pure false := by
    show (typeLookup (.type "list") (dunderI "add") >>= fun fi => pure (fi.isSome && !isSeqSlot fi)) = _
    rw [hi]
    simp [hq]
  rw [hf]
  refine wpAny_bind (wpAny_pure ?_)
  simp only [Bool.false_eq_true, if_false]
  refine wpAny_bind (wpAny_binaryOp1_none hT hU noFill_list_add ?_)
  dsimp only
  have hs : seqSlot? (.type "list") (dunderI "add") = pure (some (.builtin "list.__iadd__")) := PySem.seqSlot_of hi hq
  show wpAny _ A (seqSlot? (.type "list") (dunderI "add") >>= _) Q E s
  rw [hs]
  refine wpAny_bind (wpAny_pure ?_)
  dsimp only
  refine wpAny_bind (wpAny_rule ?_)
  refine call_meets F.slot_list_iadd hT F.entry_list_iadd (F.args_list_iadd_2 _ _)
    (AutoSeq1.list___iadd___list_list_0 a xs.toArray n b ys.toArray k ?_ (by rw [sizeLine_eq, List.size_toArray]; omega) (by rw [sizeLine_eq]; simp only [List.size_toArray]; omega)) ⟨ha, hb, ?_⟩
  · simp only [Builtin.List.listTooLong, List.size_toArray, Bool.and_eq_true, decide_eq_true_eq, not_and]
    intro _; rw [sizeLine_eq]; omega
  · obtain ⟨i, hi⟩ := mapSeq_lobj xs n (fun x => x ++ ys.toArray)
    refine h _ i ?_ (Heap.SameBut.update ..)
    rw [Heap.get?_update_self _ ha (by rw [hi]; rfl), hi]
    simp
end Mine

-- M6
set_option autoImplicit false
set_option maxRecDepth 100000
namespace Mine
open PySem PySem.W PyProof.Rows

variable {c : Cx} {φ : List Addr} {H : Hp} {L : Addr} {m : Str → Option Value}
variable {prog : Program} {w : World} {A : Around} {E : Value → Shared → Prop} {s : Shared}

theorem low_table : ∀ c, c < 128 → Unicode.lowerOf c = [lowC c] := by decide +kernel

theorem asc_mem {l : List Nat} (h : asc l = true) : ∀ k ∈ l, k < 128 := by simpa [asc] using h

theorem flatten_single {α β : Type} (l : List α) (f : α → β) : (l.toArray.mapIdx fun _ k => ([f k] : List β).toArray).flatten = (l.map f).toArray := by
  have e : (l.toArray.mapIdx fun _ k => ([f k] : List β).toArray) = l.toArray.map fun k => ([f k] : List β).toArray := by
    apply Array.ext
    · simp
    · intro i h1 h2; simp
  rw [e]
  apply Array.toList_inj.mp
  rw [Array.toList_flatten, Array.toList_map, List.map_map]
  show (List.map _ l).flatten = l.map f
  clear e
  induction l with
  | nil => rfl
  | cons a l ih => simp only [List.map_cons, List.flatten_cons, ih]; rfl

theorem lower_asc {l : List Nat} (h : asc l = true) : Txt.lower ⟨l.toArray⟩ = ⟨(l.map lowC).toArray⟩ := by
  apply Str.ext'
  show (l.toArray.mapIdx fun i _ => (Unicode.lowerAt l.toArray i).toArray).flatten = _
  rw [← flatten_single]
  congr 1
  apply Array.ext
  · simp
  · intro i h1 h2
    simp only [Array.getElem_mapIdx]
    have hi : i < l.length := by simpa using h1
    have hk := asc_mem h l[i] (List.getElem_mem hi)
    have e : Unicode.lowerAt l.toArray i = [lowC l[i]] := by
      unfold Unicode.lowerAt
      simp only [List.getElem?_toArray, List.getElem?_eq_getElem hi]
      rw [if_neg, low_table _ hk]
      intro hh
      rw [Bool.and_eq_true, beq_iff_eq] at hh
      omega
    rw [e]; simp
theorem ints_map (l : List V) : ∀ {is : List Int}, ints? l = some is → l = is.map V.int := by
  induction l with
  | nil => intro is e; obtain rfl := someq e; rfl
  | cons v l ih =>
    intro is e
    obtain ⟨i, h1, e⟩ := bindsome e
    obtain ⟨r, h2, e⟩ := bindsome e
    rw [← someq e, intV_some h1, ih h2]; rfl
theorem ints_rel {h : Heap} (is : List Int) : ∀ {xs : List Value}, VRels c h φ (is.map V.int) xs → IntsAre xs is := by
  induction is with
  | nil => intro xs r; cases r; exact .nil
  | cons i is ih =>
    intro xs r
    obtain ⟨y, t, rfl, ⟨u, rfl⟩, h2⟩ := r
    exact .cons i u (ih h2)
theorem ints_are {l : List V} {is : List Int} {xs : List Value} {h : Heap} (e : ints? l = some is) (r : VRels c h φ l xs) : IntsAre xs is := by
  rw [ints_map l e] at r; exact ints_rel is r
theorem ints_vrels {h : Heap} : ∀ {is : List Int} {xs : List Value}, IntsAre xs is → VRels c h φ (is.map V.int) xs
  | _, _, .nil => rfl
  | _, _, .cons i t r => .cons ⟨t, rfl⟩ (ints_vrels r)
noncomputable abbrev toS (l : List Nat) : Str := ⟨l.toArray⟩
theorem strs_map (l : List V) : ∀ {is : List (List Nat)}, strs? l = some is → l = is.map V.str := by
  induction l with
  | nil => intro is e; obtain rfl := someq e; rfl
  | cons v l ih =>
    intro is e
    obtain ⟨i, h1, e⟩ := bindsome e
    obtain ⟨r, h2, e⟩ := bindsome e
    rw [← someq e, strV_some h1, ih h2]; rfl
theorem strs_len {l : List V} {ss : List (List Nat)} (e : strs? l = some ss) : l = ss.map V.str := strs_map l e
theorem sort_perm (l : List Int) : (sortI l).Perm l := by
  have ins : ∀ (x : Int) (l : List Int), (insertI x l).Perm (x :: l) := by
    intro x l
    induction l with
    | nil => exact .refl _
    | cons y r ih =>
      unfold insertI
      split
      · exact .refl _
      · exact (List.Perm.cons y ih).trans (List.Perm.swap x y r)
  induction l with
  | nil => exact .refl _
  | cons x r ih => exact (ins x _).trans (List.Perm.cons x ih)
theorem sort_sorted (l : List Int) : (sortI l).Pairwise (· ≤ ·) := by
  have ins : ∀ (x : Int) (l : List Int), l.Pairwise (· ≤ ·) → (insertI x l).Pairwise (· ≤ ·) ∧ ∀ z ∈ insertI x l, z = x ∨ z ∈ l := by
    intro x l
    induction l with
    | nil => intro _; exact ⟨by simp [insertI], by simp [insertI]⟩
    | cons y r ih =>
      intro h
      rw [List.pairwise_cons] at h
      unfold insertI
      split
      · rename_i hxy
        refine ⟨List.pairwise_cons.mpr ⟨fun z hz => ?_, List.pairwise_cons.mpr h⟩, fun z hz => by simpa using hz⟩
        rcases List.mem_cons.mp hz with rfl | hz
        · exact hxy
        · exact Int.le_trans hxy (h.1 z hz)
      · rename_i hxy
        obtain ⟨h1, h2⟩ := ih h.2
        refine ⟨List.pairwise_cons.mpr ⟨fun z hz => ?_, h1⟩, fun z hz => ?_⟩
        · rcases h2 z hz with rfl | hz
          · omega
          · exact h.1 z hz
        · rcases List.mem_cons.mp hz with rfl | hz
          · simp
          · rcases h2 z hz with rfl | hz <;> simp [*]
  induction l with
  | nil => exact .nil
  | cons x r ih => exact (ins x _ ih).1

theorem sum_small : ∀ (l : List Int), (∀ i ∈ l, -(2 ^ 32 : Int) ≤ i ∧ i ≤ 2 ^ 32) → -(2 ^ 32 * (l.length : Int)) ≤ l.sum ∧ l.sum ≤ 2 ^ 32 * (l.length : Int)
  | [], _ => by simp
  | x :: r, h => by
    have h1 := sum_small r (fun i hi => h i (.tail _ hi))
    have h2 := h x (.head _)
    simp only [List.sum_cons, List.length_cons, Int.natCast_add, Int.natCast_one, Int.mul_add, Int.mul_one]
    omega

noncomputable def f1Of : B1 → Value
  | .len => .builtin "len"
  | .int => .type "int"
  | .chr => .builtin "chr"
  | .sum => .builtin "sum"
  | .sorted => .builtin "sorted"
  | .range => .type "range"
  | .lower => .builtin "str.lower"
  | .upper => .builtin "str.upper"

theorem ints_pairs : ∀ {vs : List Value} {ns : List Int}, IntsAre vs ns → ∃ ps : List (Int × Tok), vs = ps.map (fun p => .int p.1 p.2) ∧ ns = ps.map (·.1)
  | _, _, .nil => ⟨[], rfl, rfl⟩
  | _, _, .cons i t r => by
    obtain ⟨ps, rfl, rfl⟩ := ints_pairs r
    exact ⟨(i, t) :: ps, rfl, rfl⟩
theorem sum_ok {a : Addr} {vs : List Value} {ns : List Int} {Q : Value → Shared → Prop} (hh : A.handled = none) (hl : s.heap.IsList a vs.toArray) (hi : IntsAre vs ns) (h : ∀ i ∈ ns, -(2 ^ 32 : Int) ≤ i ∧ i ≤ 2 ^ 32) (hn : ns.length ≤ 64)
    (hq : ∀ h' tk t', (∀ b o, s.heap.get? b = some o → h'.get? b = some o) → Q (.int ns.sum t') (sht s h' tk)) : wpAny (model prog w) A (call (.builtin "sum") [.ref a]) Q E s := by
  obtain ⟨ps, rfl, rfl⟩ := ints_pairs hi
  have e1 : intItems ps.toArray = (ps.map fun p => Value.int p.1 p.2).toArray := by simp [intItems]
  have e2 : numAt ps.toArray = fun i => (ps.map (·.1)).getD i 0 := by
    funext i
    simp [numAt, List.getD_eq_getElem?_getD]
  refine sum_intList (xs := ps.toArray) hh (by rw [e1]; exact hl) ?_ ?_
  · intro j hj
    have hj' : j < (ps.map (·.1)).length := by simpa using hj
    rw [e2, preSum_getD]
    have h1 := h _ (List.getElem_mem hj')
    have h2 := sum_small ((ps.map (·.1)).take (j + 1)) (fun i hi => h i (List.mem_of_mem_take hi))
    have h3 : ((ps.map (·.1)).take (j + 1)).length ≤ 64 := by rw [List.length_take]; omega
    dsimp only
    rw [List.getD_eq_getElem?_getD, List.getElem?_eq_getElem hj', Option.getD_some]
    unfold InLong
    omega
  · intro h' tk t' hk
    rw [e2, preSum_getD, List.take_of_length_le (by simp)]
    exact hq h' tk t' hk

theorem len_ok {a r : V} {x : Value} {Q : Value → Shared → Prop} (e : lenV H a = some r) (st : St c φ H L m s.heap) (ra : VRel c s.heap φ a x) (o : Out c φ L m s r Q) :
    wpAny (model prog w) A (call (.builtin "len") [x]) Q E s := by
  have lists : (listV H a).bind lenOf = some r → wpAny (model prog w) A (call (.builtin "len") [x]) Q E s := fun e => by
    obtain ⟨l, hl, e⟩ := bindsome e
    obtain ⟨hlen, e⟩ := ifsome e
    obtain rfl := someq e
    obtain ⟨a', xs, n, rfl, g1, g2⟩ := listV_ok st.w hl ra
    refine PySem.Calls.call_len_list (isList_of g1) (by rw [List.size_toArray, g2.length]; omega) ?_
    exact o.same st ⟨_, by rw [List.size_toArray, g2.length]; rfl⟩
  cases a with
  | str l =>
    obtain ⟨hl, e⟩ := ifsome e
    obtain rfl := someq e
    obtain ⟨t, rfl⟩ := ra
    refine P.len_str (by simp only [Str.length, List.size_toArray]; omega) ?_
    exact o.same st ⟨_, by simp [Str.length]; rfl⟩
  | tup l =>
    obtain ⟨hl, e⟩ := ifsome e
    obtain rfl := someq e
    obtain ⟨a', xs, n, rfl, g1, _, g2⟩ := ra
    refine len_tuple (items := xs.toArray) (isTup_of g1) (by rw [List.size_toArray, g2.length]; omega) ?_
    exact o.same st ⟨_, by rw [List.size_toArray, g2.length]; rfl⟩
  | _ => exact lists e
theorem b1_ok {f : B1} {a r : V} {x : Value} {Q : Value → Shared → Prop} (e : b1V H f a = some r) (st : St c φ H L m s.heap) (ra : VRel c s.heap φ a x) (hh : A.handled = none) (o : Out c φ L m s r Q) :
    wpAny (model prog w) A (call (f1Of f) [x]) Q E s := by
  cases f with
  | len => exact len_ok e st ra o
  | int =>
    obtain ⟨i, h1, e⟩ := bindsome e
    obtain rfl := intV_some h1
    obtain rfl := someq e
    obtain ⟨t, rfl⟩ := ra
    exact call_int_int (o.same' st ⟨_, rfl⟩)
  | chr => exact nosome e
  | sum =>
    obtain ⟨is, h1, e⟩ := bindsome e
    obtain ⟨l, hl, his⟩ := bindsome h1
    obtain ⟨hb, e⟩ := ifsome e
    obtain rfl := someq e
    obtain ⟨a', xs, n, rfl, g1, g2⟩ := listV_ok st.w hl ra
    refine sum_ok hh (isList_of g1) (ints_are his g2) (fun i hi => ?_) hb.2 fun h' tk t' k => o _ h' tk (.of k) (st.ext k).l.ns ⟨_, rfl⟩
    have := List.all_eq_true.mp hb.1 i hi
    rw [Bool.and_eq_true, decide_eq_true_eq, decide_eq_true_eq] at this
    exact this
  | sorted =>
    obtain ⟨is, h1, e⟩ := bindsome e
    obtain ⟨l, hl, his⟩ := bindsome h1
    obtain ⟨hb, e⟩ := ifsome e
    obtain rfl := someq e
    obtain ⟨a', xs, n, rfl, g1, g2⟩ := listV_ok st.w hl ra
    have hi := ints_are his g2
    refine sorted_N (frAll st.l.ns) (newsAll s.heap L) (isList_of g1) hi (by rw [hi.length]; exact hb) fun h' vs' ns' e' F' N' hI hp hw => ?_
    have hk := keep_of_news N' fun _ q => .tail _ q
    have hN := N' _ (.head _)
    have e0 : ns' = sortI is := List.Perm.eq_of_pairwise (fun a b _ _ h1 h2 => Int.le_antisymm h1 h2) hw (sort_sorted is) (hp.trans (sort_perm is).symm)
    subst e0
    refine o _ h' s.toks hk F'.ns ⟨_, vs', e', rfl, hN.1, fun hm => ?_, fun hm => ?_, ints_vrels hI⟩
    · obtain ⟨ys, k, q⟩ := st.w.isL _ hm
      exact absurd (Heap.lt_size q) (Nat.not_lt.mpr (Nat.le_succ _))
    · obtain ⟨_, _, _, q, _⟩ := st.w.ghs _ hm
      exact absurd (Heap.lt_size q) (Nat.not_lt.mpr (Nat.le_succ _))
  | range =>
    obtain ⟨i, h1, e⟩ := bindsome e
    obtain rfl := intV_some h1
    obtain rfl := someq e
    obtain ⟨t, rfl⟩ := ra
    refine call_range_1 ?_
    exact o.push st ⟨_, _, _, _, rfl, Heap.get?_push_size _ rfl⟩
  | lower =>
    obtain ⟨i, h1, e⟩ := bindsome e
    obtain rfl := strV_some h1
    obtain ⟨hb, e⟩ := ifsome e
    obtain rfl := someq e
    obtain ⟨t, rfl⟩ := ra
    have hl := lower_asc hb.1
    exact SC.lower (by rw [hl]; simp only [Builtin.Str.tooLong, Str.length, List.size_toArray, List.length_map, decide_eq_false_iff_not]; rw [sizeLine_eq]; omega) (by rw [hl]; exact o.same st ⟨_, rfl⟩)
  | upper => exact nosome e
end Mine

-- M7
set_option autoImplicit false
set_option maxRecDepth 100000
namespace Mine
open PySem PySem.W PyProof.Rows

variable {c : Cx} {φ : List Addr} {H : Hp} {L : Addr} {m : Str → Option Value}
variable {prog : Program} {w : World} {A : Around} {E : Value → Shared → Prop} {s : Shared}

theorem flat_join : ∀ ss : List (List Nat), Str.join ⟨#[]⟩ (ss.map toS) = toS ss.flatten
  | [] => by rfl
  | a :: r => by
    rw [List.map_cons, join_nil_cons, flat_join r]
    apply Str.ext'
    rw [Str.cps_append]
    simp [toS]

theorem strs_vals {h : Heap} (ss : List (List Nat)) : ∀ {xs : List Value}, VRels c h φ (ss.map V.str) xs → ∃ ts : List Tok, ts.length = ss.length ∧ xs = List.zipWith (fun z t => Value.str (toS z) t) ss ts := by
  induction ss with
  | nil => intro xs r; cases r; exact ⟨[], rfl, rfl⟩
  | cons z ss ih =>
    intro xs r
    obtain ⟨y, t, rfl, ⟨u, rfl⟩, h2⟩ := r
    obtain ⟨ts, h3, rfl⟩ := ih h2
    exact ⟨u :: ts, congrArg Nat.succ h3, rfl⟩

theorem strV_ok {v : V} {l : List Nat} {x : Value} {h : Heap} (e : strV v = some l) (r : VRel c h φ v x) : ∃ t, x = .str (toS l) t := by
  rw [strV_some e] at r; exact r
theorem textsV_ok {h : Heap} (w : Wd c φ H h) {v : V} {ss : List (List Nat)} {x : Value} (e : textsV H v = some ss) (r : VRel c h φ v x) :
    ∃ a ts n, x = .ref a ∧ ts.length = ss.length ∧ h.get? a = some (lobj (List.zipWith (fun z t => Value.str (toS z) t) ss ts) n) := by
  obtain ⟨l, hl, e⟩ := bindsome e
  obtain ⟨a', xs, n, rfl, g1, g2⟩ := listV_ok w hl r
  rw [strs_len e] at g2
  obtain ⟨ts, h1, rfl⟩ := strs_vals ss g2
  exact ⟨a', ts, n, rfl, h1, g1⟩
theorem zip_are : ∀ (ss : List (List Nat)) (ts : List Tok), ts.length = ss.length → StrsAre (List.zipWith (fun z t => Value.str (toS z) t) ss ts) (ss.map toS)
  | [], _, _ => .nil
  | z :: ss, t :: ts, h => .cons _ t (zip_are ss ts (by simpa using h))
  | z :: ss, [], h => by simp at h

noncomputable def f2Of : B2 → String
  | .min => "min"
  | .join => "str.join"
  | .count => "list.count"
  | .index => "list.index"
  | .search => ""
theorem join_len (l : List (List Nat)) (h : ∀ q ∈ l, q.length ≤ 64) : (l.map fun q => (toS q).length).sum ≤ 64 * l.length := by
  induction l with
  | nil => exact Nat.zero_le _
  | cons q l ih =>
    rw [List.map_cons, List.sum_cons, List.length_cons, Nat.mul_succ, Nat.add_comm]
    exact Nat.add_le_add (ih fun q hq => h q (.tail _ hq)) (h q (.head _))
theorem b2_ok {f : B2} {a b r : V} {x y : Value} {Q : Value → Shared → Prop} (e : b2V H f a b = some r) (st : St c φ H L m s.heap) (ra : VRel c s.heap φ a x) (rb : VRel c s.heap φ b y) (hh : A.handled = none) (hf : f ≠ .search) (o : Out c φ L m s r Q) :
    wpAny (model prog w) A (call (.builtin (f2Of f)) [x, y]) Q E s := by
  cases f with
  | search => exact absurd rfl hf
  | min =>
    obtain ⟨i, j, rfl, rfl, e⟩ := int2_some e
    obtain rfl := someq e
    obtain ⟨t, rfl⟩ := ra; obtain ⟨u, rfl⟩ := rb
    refine min_two_ints hh fun h' tk k => o _ h' tk (.of k) (st.ext k).l.ns ?_
    by_cases hij : j < i
    · rw [if_pos hij, if_pos hij]; exact ⟨_, rfl⟩
    · rw [if_neg hij, if_neg hij]; exact ⟨_, rfl⟩
  | join =>
    obtain ⟨sep, h1, e⟩ := bindsome e
    obtain ⟨ss, h2, e⟩ := bindsome e
    obtain ⟨t, rfl⟩ := strV_ok h1 ra
    obtain ⟨a', ts, n, rfl, hts, g1⟩ := textsV_ok st.w h2 rb
    obtain ⟨hb, e⟩ := ifsome e
    have hA := zip_are ss ts hts
    have h3 := join_len ss fun q hq => of_decide_eq_true (List.all_eq_true.mp hb.2.1 q hq)
    have h4 : ss.length * sep.length ≤ 64 * 2 := Nat.mul_le_mul hb.1 hb.2.2
    have tj : ∀ sep l, Txt.join sep l = Str.join sep l := fun sep l => eq_of_beq (join_plain_closes sep l)
    refine join_list (x := toS sep) (ys := ss.map toS) (isList_of g1) (by simpa using hA) ?_ fun t' k => ?_
    · simp only [List.map_map, Function.comp_def, Str.length, List.size_toArray, List.length_map] at h3 ⊢
      omega
    · rcases itesome e with ⟨rfl, e⟩ | ⟨_, e⟩
      · obtain rfl := someq e
        exact o.same st ⟨t', by rw [tj]; show Value.str (Str.join ⟨#[]⟩ (ss.map toS)) t' = _; rw [flat_join]⟩
      · obtain ⟨z, hz, e⟩ := bindsome e
        obtain rfl := someq e
        rw [oneL_some hz]
        exact o.same st ⟨t', by rw [tj]; rfl⟩
  | count => exact nosome e
  | index => exact nosome e

theorem rep_ok {a : Addr} {xs : List Value} {n : Nat} {k : Int} {t : Tok} {Q : Value → Shared → Prop} (ha : s.heap.get? a = some (lobj xs n)) (hk : k ≤ 2 ^ 10) (hx : xs.length ≤ 1) (hl : -(2 ^ 62 : Int) < k)
    (h : Q (.ref s.heap.objs.size) { s with heap := s.heap.push (lobj (List.replicate k.toNat xs).flatten 0) }) : wpAny (model prog w) A (binaryOp .Mult (.ref a) (.int k t)) Q E s := by
  have hz : xs.toArray.size * k.toNat ≤ 2 ^ 24 := by
    rw [List.size_toArray]
    have : xs.length * k.toNat ≤ 1 * k.toNat := Nat.mul_le_mul_right _ hx
    omega
  refine wpAny_binaryOp_repeat_ref (T := "list") (U := "int") (by decide) ⟨_, ha, rfl⟩ (fun s' => typeIs_int s' k t) noFill_list_mul F.fills_int_mul F.slot_int_rmul repeat_list F.slot_int_index.lookup
    (call_meets F.slot_int_rmul (typeIs_int s k t) F.entry_int_rmul (F.args_int_rmul_2 _ _) (int___rmul___int_list k t a xs.toArray n)
      ⟨ha, rfl, ⟨_, ha, rfl⟩, call_meets F.slot_list_mul ⟨_, ha, rfl⟩ F.entry_list_mul (F.args_list_mul_2 _ _)
        (AutoListH.list___mul___list_int_3 a xs.toArray n k t (by simp [Builtin.List.listFitsIndex]; omega) (by omega) (by simp [Builtin.List.listTooLong, sizeLine]; simpa using hz))
        ⟨ha, ?_⟩⟩)
  have e : List.foldl (fun x1 x2 => x1 ++ x2) #[] (List.replicate (if xs.toArray.isEmpty = true then 0 else k.toNat) xs.toArray) = ((List.replicate k.toNat xs).flatten).toArray := listMul_foldl_if _ _
  rw [e]
  exact h
end Mine

-- M8
set_option autoImplicit false
set_option maxRecDepth 100000
namespace Mine
open PySem PySem.W PyProof.Rows

noncomputable def Cx.gl (c : Cx) (x : Str) (v : Value) : Prop := c.mg x = some v ∨ (c.mg x = none ∧ c.mb x = some v)

structure GF (c : Cx) : Prop where
  k : c.K.In c.h₀
  g : c.h₀.Ns mainGlobals c.mg
  b : c.h₀.Ns builtinsNs c.mb
  nl : c.h₀.NoLimit
  pg : plainGet c.K c.C hkey = true
  hd : hasDictIn c.K c.C = true
  fi : findIn c.K (.ref c.C) hkey = some none
  ng : noGet c.K none = true
  pvr : ∀ k, ∃ a, c.pv k = .ref a

structure ERel (c : Cx) (N : List Str) (h : Heap) (φ : List Addr) (env : Env) (m : Str → Option Value) (ρ : En) : Prop where
  nd : N.Nodup
  fn : env.scope.kind = .function
  gl : env.globals = mainGlobals
  bi : env.builtins = builtinsNs
  loc : ∀ (x : Nat) (v : V) (id : Str), getE ρ x = some v → N[x]? = some id → env.kindOf id = some .local → ∃ y, m id = some y ∧ VRel c h φ v y
  cel : ∀ (x : Nat) (v : V) (id : Str), getE ρ x = some v → N[x]? = some id → env.kindOf id = some .cell ∨ env.kindOf id = some .free → ∃ a y, env.cells.lookup id = some a ∧ h.IsCell a (some y) ∧ VRel c h φ v y
  has : ∀ x : Str, env.kindOf x = some .cell ∨ env.kindOf x = some .free → ∃ a y, env.cells.lookup x = some a ∧ h.IsCell a y
  dis : ∀ (x y : Str) (a : Addr), env.cells.lookup x = some a → env.cells.lookup y = some a → x = y

structure ScOk (env : Env) (sc : Scope) : Prop where
  loc : ∀ x, sc.names.lookup x = some .local → env.kindOf x = some .local
  cel : ∀ x, sc.names.lookup x = some .cell → env.kindOf x = some .cell
  fre : ∀ x, sc.names.lookup x = some .free → env.kindOf x = some .free ∨ env.kindOf x = some .cell
  glo : ∀ x, sc.names.lookup x = some .globalImplicit → env.kindOf x = some .globalImplicit

structure AOk (A : Around) (k : Nat) : Prop where
  hh : A.handled = none
  dep : A.depth + 8 * k + 8 < recursionLimit
  uni : A.units + 32 * k + 128 < cLine

variable {c : Cx} {φ : List Addr} {H : Hp} {m : Str → Option Value}

theorem notCell_of {h : Heap} (w : Wd c φ H h) {a : Addr} {o : Obj} (e : h.get? a = some o) (n : ∀ xs k, o ≠ lobj xs k) : a ∉ φ := fun hm => by
  obtain ⟨xs, k, q⟩ := w.isL a hm
  rw [e] at q; cases q; exact n _ _ rfl

theorem cellKeep {L : Addr} {h h' : Heap} {φ' : List Addr} (st : St c φ H L m h) (u : Up L h φ h' φ') {a : Addr} {y : Option Value} (hc : h.IsCell a y) : h'.IsCell a y := by
  obtain ⟨o, e, d⟩ := hc
  refine ⟨o, u.keep a o e (notCell_of st.w e fun xs k q => by rw [q] at d; cases d) fun q => ?_, d⟩
  obtain ⟨o', es, ep, h1, h2, _⟩ := st.l.ns
  rw [q, h1] at e; cases e
  rw [h2] at d; cases d
theorem ERel.up {N : List Str} {h h' : Heap} {φ' : List Addr} {env : Env} {ρ : En} (x : ERel c N h φ env m ρ) (st : St c φ H env.locals m h) (u : Up env.locals h φ h' φ') : ERel c N h' φ' env m ρ := by
  refine ⟨x.nd, x.fn, x.gl, x.bi, fun i v id e n k => ?_, fun i v id e n k => ?_, fun i k => ?_, x.dis⟩
  · obtain ⟨y, h1, h2⟩ := x.loc i v id e n k
    exact ⟨y, h1, h2.up st.w st.l u⟩
  · obtain ⟨a, y, h1, h2, h3⟩ := x.cel i v id e n k
    exact ⟨a, y, h1, cellKeep st u h2, h3.up st.w st.l u⟩
  · obtain ⟨a, y, h1, h2⟩ := x.has i k
    exact ⟨a, y, h1, cellKeep st u h2⟩

noncomputable def Post (c : Cx) (φ : List Addr) (L : Addr) (m : Str → Option Value) (s : Shared) (r : V) (H' : Hp) (Q : Value → Shared → Prop) : Prop :=
  ∀ val h' tk φ', Up L s.heap φ h' φ' → St c φ' H' L m h' → VRel c h' φ' r val → Q val (sht s h' tk)
noncomputable def PostB (c : Cx) (φ : List Addr) (L : Addr) (m : Str → Option Value) (s : Shared) (b : Bool) (H' : Hp) (Q : Bool → Shared → Prop) : Prop :=
  ∀ h' tk φ', Up L s.heap φ h' φ' → St c φ' H' L m h' → Q b (sht s h' tk)
noncomputable def PostL (c : Cx) (φ : List Addr) (L : Addr) (m : Str → Option Value) (s : Shared) (r : List V) (H' : Hp) (Q : List Value → Shared → Prop) : Prop :=
  ∀ vals h' tk φ', Up L s.heap φ h' φ' → St c φ' H' L m h' → VRels c h' φ' r vals → Q vals (sht s h' tk)

theorem Post.out {L : Addr} {s : Shared} {r : V} {Q : Value → Shared → Prop} (p : Post c φ L m s r H Q) (st : St c φ H L m s.heap) : Out c φ L m s r Q :=
  fun val h' tk k n v => p val h' tk φ (.of_keepL k) (st.keepL k n) v
theorem Post.after {L : Addr} {s : Shared} {r : V} {H' : Hp} {Q : Value → Shared → Prop} {h₁ : Heap} {tk : Nat} {φ₁ : List Addr} (p : Post c φ L m s r H' Q) (u : Up L s.heap φ h₁ φ₁) {H₁ : Hp} (st : St c φ₁ H₁ L m h₁) :
    Post c φ₁ L m (sht s h₁ tk) r H' Q := fun val h' tk' φ' u' st' v => p val h' tk' φ' (u.trans st.w st.l u') st' v
theorem PostB.after {L : Addr} {s : Shared} {r : Bool} {H' : Hp} {Q : Bool → Shared → Prop} {h₁ : Heap} {tk : Nat} {φ₁ : List Addr} (p : PostB c φ L m s r H' Q) (u : Up L s.heap φ h₁ φ₁) {H₁ : Hp} (st : St c φ₁ H₁ L m h₁) :
    PostB c φ₁ L m (sht s h₁ tk) r H' Q := fun h' tk' φ' u' st' => p h' tk' φ' (u.trans st.w st.l u') st'
theorem Out.post {L : Addr} {s : Shared} {r : V} {Q : Value → Shared → Prop} (p : Post c φ L m s r H Q) (st : St c φ H L m s.heap) {val : Value} {tk : Nat} (v : VRel c s.heap φ r val) : Q val { s with toks := tk } :=
  p val s.heap tk φ (.refl ..) st v

noncomputable def FnOk (c : Cx) (prog : Program) (w : World) (k : Nat) (f : Nat) (kw : List Str) (F : List V → Hp → Option (V × Hp)) : Prop :=
  ∀ {g : List Addr} {A : Around} {E : Value → Shared → Prop} {s : Shared} {φ : List Addr} {H : Hp} {L : Addr} {m : Str → Option Value} {args : List V} {vs ks : List Value} {r : V} {H' : Hp} {Q : Value → Shared → Prop},
    AOk A k → St (c.wg g) φ H L m s.heap → VRels (c.wg g) s.heap φ args (vs ++ ks) → ks.length = kw.length → F args H = some (r, H') → Post (c.wg g) φ L m s r H' Q →
    wpAny (model prog w) A (call (c.fv f) vs (kw.zip ks)) Q E s

structure MethAt (c : Cx) (name : Str) (f : Nat) : Prop where
  pg : plainGet c.K c.C name = true
  fi : ∃ a, c.fv f = .ref a ∧ findIn c.K (.ref c.C) name = some (some (.ref a)) ∧ isFn c.K (.ref a) = true
  ke : keepIn c.K (c.fv f) = true
  ne : (hkey == name) = false
  lt : f < 10

noncomputable def tgHas (t : Tgt) (x : Nat) : Prop := match t with | .one y => x = y | .two y z => x = y ∨ x = z
noncomputable def tgL : Tgt → List Nat
  | .one y => [y]
  | .two y z => [y, z]
noncomputable def tgDis (t u : Tgt) : Bool := (tgL t).all fun x => !(tgL u).contains x
inductive MT (N : List Str) : Tgt → Scope → Expr → Prop
  | one {sc x id p} : N[x]? = some id → (sc.names.lookup id = some .local ∨ sc.names.lookup id = some .cell) → id ≠ hkey → MT N (.one x) sc (.Name id p)
  | two {sc x y i1 i2 p1 p2 k p} : N[x]? = some i1 → (sc.names.lookup i1 = some .local ∨ sc.names.lookup i1 = some .cell) → i1 ≠ hkey → N[y]? = some i2 → (sc.names.lookup i2 = some .local ∨ sc.names.lookup i2 = some .cell) → i2 ≠ hkey →
      MT N (.two x y) sc (.Tuple [.Name i1 p1, .Name i2 p2] k p)

structure CScope (N : List Str) (sc sc2 : Scope) (cl : List Nat) : Prop where
  kind : sc2.kind = .function
  nd : (sc2.names.map (·.1)).Nodup
  free : (sc2.names.all fun x => x.2 != .free || sc.names.lookup x.1 == some .cell || sc.names.lookup x.1 == some .free) = true
  cl : ((List.range N.length).all fun i => match N[i]? with
    | some id => !(sc2.names.lookup id == some .local || sc2.names.lookup id == some .cell) || cl.contains i
    | none => true) = true
  own : (sc2.names.all fun x => x.2 != .free || x.1 != ("__classdict__" : Str)) = true

noncomputable def isTupE : Expr → Bool
  | .Tuple .. => true
  | _ => false

theorem isTupE_ok {e : Expr} (h : isTupE e = true) : ∃ elts kk tp, e = .Tuple elts kk tp := by
  cases e <;> first | exact ⟨_, _, _, rfl⟩ | exact Bool.noConfusion h

inductive VK : V → Expr → Prop
  | none {k p} : VK .none (.Constant .none k p)
  | bool {b k p} : VK (.bool b) (.Constant (.bool b) k p)
  | int {i k p} : VK (.int i) (.Constant (.int i) k p)
  | str {x l k p} : x = toS l → VK (.str l) (.Constant (.str x) k p)
  | debug {id p} : (id == ("__debug__" : Str)) = true → VK (.bool true) (.Name id p)
inductive VVar (N : List Str) (sc : Scope) (x : Nat) : Expr → Prop
  | var {id p} : N[x]? = some id → (sc.names.lookup id = some .local ∨ sc.names.lookup id = some .cell ∨ sc.names.lookup id = some .free) → (id == ("__debug__" : Str)) = false → (id == ("__classdict__" : Str)) = false → VVar N sc x (.Name id p)
inductive VGlob (c : Cx) (sc : Scope) (v : V) : Expr → Prop
  | glob {id y p} : c.gl id y → (∀ g h φ, VRel (c.wg g) h φ v y) → sc.names.lookup id = some .globalImplicit → (id == ("__debug__" : Str)) = false → VGlob c sc v (.Name id p)
inductive VBin (A B : Expr → Prop) (op : BOp) : Expr → Prop
  | bin {l r pos} : A l → B r → VBin A B op (.BinOp l (bopOf op) r pos)
inductive VRep (A B : Expr → Prop) : Expr → Prop
  | rep {l r pos} : A l → B r → VRep A B (.BinOp l .Mult r pos)
inductive VCmp (A B : Expr → Prop) (op : COp) : Expr → Prop
  | cmp {l r pos} : A l → B r → behindInMarks (copOf op) r = false → VCmp A B op (.Compare l [copOf op] [r] pos)
inductive VIsNone (A : Expr → Prop) (neg : Bool) : Expr → Prop
  | isNone {l k p pos} : A l → VIsNone A neg (.Compare l [if neg then .IsNot else .Is] [.Constant .none k p] pos)
inductive VTypeIs (c : Cx) (sc : Scope) (A : Expr → Prop) (neg ls : Bool) : Expr → Prop
  | typeIs {l p1 p2 p3 pos} : A l → c.gl "type" (.type "type") → sc.names.lookup ("type" : Str) = some .globalImplicit → c.gl (if ls then "list" else "str") (.type (if ls then "list" else "str")) →
      sc.names.lookup ((if ls then "list" else "str") : Str) = some .globalImplicit →
      VTypeIs c sc A neg ls (.Compare (.Call (.Name "type" p1) [l] [] p2) [if neg then .IsNot else .Is] [.Name (if ls then "list" else "str") p3] pos)
inductive VAnd (L : List Expr → Prop) : Expr → Prop
  | and {l pos} : L l → VAnd L (.BoolOp .And l pos)
inductive VOr (L : List Expr → Prop) : Expr → Prop
  | or {l pos} : L l → VOr L (.BoolOp .Or l pos)
inductive VNot (A : Expr → Prop) : Expr → Prop
  | not {e pos} : A e → VNot A (.UnaryOp .Not e pos)
inductive VNeg (A : Expr → Prop) : Expr → Prop
  | neg {e pos} : A e → VNeg A (.UnaryOp .USub e pos)
inductive VIte (T A B : Expr → Prop) : Expr → Prop
  | ite {t a b pos} : T t → A a → B b → VIte T A B (.IfExp t a b pos)
inductive VIdx (A B : Expr → Prop) : Expr → Prop
  | idx {e i pos} : A e → B i → VIdx A B (.Subscript e i pos)
inductive VO (A : Expr → Prop) (p : PE) : Option Expr → Prop
  | none : p = .k .none → VO A p none
  | some {e} : A e → VO A p (some e)
inductive VSl (A : Expr → Prop) (L H : Option Expr → Prop) : Expr → Prop
  | sl {e lo hi p pos} : A e → L lo → H hi → VSl A L H (.Subscript e (.Slice lo hi none p) pos)
inductive VTup (L : List Expr → Prop) : Expr → Prop
  | tup {l k pos} : L l → l.length < 30 → VTup L (.Tuple l k pos)
inductive VLst (L : List Expr → Prop) : Expr → Prop
  | lst {l pos} : L l → VLst L (.List l pos)
inductive VCall (c : Cx) (kw : Nat → List Str) (sc : Scope) (f : Nat) (L : List Expr → Prop) : Expr → Prop
  | call {id p l pos} : c.gl id (c.fv f) → sc.names.lookup id = some .globalImplicit → (id == ("__debug__" : Str)) = false → keepIn c.K (c.fv f) = true → kw f = [] → L l → VCall c kw sc f L (.Call (.Name id p) l [] pos)
  | mcall {o name ap l pos} : (∀ env w, attributeBase o name env w = w) → (ap.endLine == pos.line) = true → l.length < 30 → MethAt c name f → kw f = [] → L (o :: l) → VCall c kw sc f L (.Call (.Attribute o name ap) l [] pos)
  | mcallK {o name ap e v kn kp pos} : (∀ env w, attributeBase o name env w = w) → (ap.endLine == pos.line) = true → MethAt c name f → kw f = [kn] → L [o, e, v] → VCall c kw sc f L (.Call (.Attribute o name ap) [e] [⟨some kn, v, kp⟩] pos)
inductive VB1 (c : Cx) (sc : Scope) (f : B1) (A : Expr → Prop) : Expr → Prop
  | b1 {id p e pos} : c.gl id (f1Of f) → sc.names.lookup id = some .globalImplicit → (id == ("__debug__" : Str)) = false → f ≠ .lower → f ≠ .upper → A e → VB1 c sc f A (.Call (.Name id p) [e] [] pos)
  | low {o name ap pos} : (∀ env w, attributeBase o name env w = w) → (ap.endLine == pos.line) = true → (name = ("lower" : Str) ∧ f = .lower ∨ name = ("upper" : Str) ∧ f = .upper) → A o → VB1 c sc f A (.Call (.Attribute o name ap) [] [] pos)
inductive VB2 (c : Cx) (sc : Scope) (f : B2) (A B : Expr → Prop) : Expr → Prop
  | min {id p e e' pos} : f = .min → c.gl id (.builtin "min") → sc.names.lookup id = some .globalImplicit → (id == ("__debug__" : Str)) = false → A e → B e' → VB2 c sc f A B (.Call (.Name id p) [e, e'] [] pos)
  | meth {o name ap e pos} : (∀ env w, attributeBase o name env w = w) → (ap.endLine == pos.line) = true →
      (name = ("join" : Str) ∧ f = .join ∨ name = ("count" : Str) ∧ f = .count ∨ name = ("index" : Str) ∧ f = .index ∨ name = ("search" : Str) ∧ f = .search) →
      A o → B e → VB2 c sc f A B (.Call (.Attribute o name ap) [e] [] pos)
inductive VLrange (c : Cx) (sc : Scope) (X Y Z : Expr → Prop) : Expr → Prop
  | lrange {i1 p1 i2 p2 e1 e2 e3 pos1 pos2} : c.gl i1 (.type "list") → sc.names.lookup i1 = some .globalImplicit → (i1 == ("__debug__" : Str)) = false → c.gl i2 (.type "range") → sc.names.lookup i2 = some .globalImplicit → (i2 == ("__debug__" : Str)) = false →
      X e1 → Y e2 → Z e3 → VLrange c sc X Y Z (.Call (.Name i1 p1) [.Call (.Name i2 p2) [e1, e2, e3] [] pos2] [] pos1)
inductive VHdrs (A : Expr → Prop) : Expr → Prop
  | hdrs {o name pos} : (∀ env w, attributeBase o name env w = w) → name = hkey → A o → VHdrs A (.Attribute o name pos)
inductive VG (c : Cx) (sc : Scope) (A B : Expr → Prop) (pb : PE) : Gn → Expr → Prop
  | plain {e} : A e → pb = .k .none → VG c sc A B pb .plain e
  | zip {id p e1 e2 pos} : c.gl id (.type "zip") → sc.names.lookup id = some .globalImplicit → (id == ("__debug__" : Str)) = false → A e1 → B e2 → VG c sc A B pb .zip (.Call (.Name id p) [e1, e2] [] pos)
  | enum {id p e pos} : c.gl id (.type "enumerate") → sc.names.lookup id = some .globalImplicit → (id == ("__debug__" : Str)) = false → A e → pb = .k .none → VG c sc A B pb .enum (.Call (.Name id p) [e] [] pos)
inductive VIf (A : Expr → Prop) : List Expr → Bool → Prop
  | none : VIf A [] false
  | some {e} : A e → VIf A [e] true
inductive VComp (N : List Str) (sc : Scope) (t : Tgt) (g : Gn) (cl : List Nat) (q : Bool) (G : Expr → Prop) (I : Scope → List Expr → Prop) (X : Scope → Expr → Prop) : Expr → Prop
  | comp {elt target iter ifs sc2 pos} : (g == .zip || g == .enum) = false ∨ isTupE target = true → MT N t sc2 target → CScope N sc sc2 cl → G iter → I sc2 ifs → X sc2 elt → VComp N sc t g cl q G I X (.ListComp elt [⟨target, iter, ifs, 0⟩] sc2 pos)
inductive VComp2 (N : List Str) (sc : Scope) (t1 t2 : Tgt) (cl : List Nat) (A : Expr → Prop) (B X : Scope → Expr → Prop) : Expr → Prop
  | comp2 {elt target1 iter1 target2 iter2 sc2 pos} : tgDis t1 t2 = true → MT N t1 sc2 target1 → MT N t2 sc2 target2 → CScope N sc sc2 cl → A iter1 → B sc2 iter2 → X sc2 elt → VComp2 N sc t1 t2 cl A B X (.ListComp elt [⟨target1, iter1, [], 0⟩, ⟨target2, iter2, [], 0⟩] sc2 pos)
inductive VCons (A : Expr → Prop) (B : List Expr → Prop) : List Expr → Prop
  | cons {e l} : A e → B l → VCons A B (e :: l)
inductive VNil : List Expr → Prop
  | nil : VNil []

mutual
noncomputable def ME (c : Cx) (kw : Nat → List Str) (N : List Str) (sc : Scope) (e : Expr) (p : PE) : Prop := match p with
  | .k v => VK v e
  | .var x => VVar N sc x e
  | .glob _ v => VGlob c sc v e
  | .bin op a b => VBin (fun e => ME c kw N sc e a) (fun e => ME c kw N sc e b) op e
  | .rep _ a b => VRep (fun e => ME c kw N sc e a) (fun e => ME c kw N sc e b) e
  | .cmp op a b => VCmp (fun e => ME c kw N sc e a) (fun e => ME c kw N sc e b) op e
  | .isNone neg a => VIsNone (fun e => ME c kw N sc e a) neg e
  | .typeIs neg ls a => VTypeIs c sc (fun e => ME c kw N sc e a) neg ls e
  | .and l => VAnd (fun e => MEs c kw N sc e l) e
  | .or l => VOr (fun e => MEs c kw N sc e l) e
  | .not a => VNot (fun e => ME c kw N sc e a) e
  | .neg a => VNeg (fun e => ME c kw N sc e a) e
  | .ite t a b => VIte (fun e => ME c kw N sc e t) (fun e => ME c kw N sc e a) (fun e => ME c kw N sc e b) e
  | .idx a i => VIdx (fun e => ME c kw N sc e a) (fun e => ME c kw N sc e i) e
  | .sl a l h => VSl (fun e => ME c kw N sc e a) (VO (fun e => ME c kw N sc e l) l) (VO (fun e => ME c kw N sc e h) h) e
  | .tup l => VTup (fun e => MEs c kw N sc e l) e
  | .lst _ l => VLst (fun e => MEs c kw N sc e l) e
  | .comp _ elt t g a b cl q pc => VComp N sc t g cl q (VG c sc (fun e => ME c kw N sc e a) (fun e => ME c kw N sc e b) b g) (fun sc2 l => VIf (fun e => ME c kw N sc2 e pc) l q) (fun sc2 e => ME c kw N sc2 e elt) e
  | .comp2 elt t1 a1 t2 a2 cl => VComp2 N sc t1 t2 cl (fun e => ME c kw N sc e a1) (fun sc2 e => ME c kw N sc2 e a2) (fun sc2 e => ME c kw N sc2 e elt) e
  | .call f l => VCall c kw sc f (fun e => MEs c kw N sc e l) e
  | .b1 f a => VB1 c sc f (fun e => ME c kw N sc e a) e
  | .b2 f a b => VB2 c sc f (fun e => ME c kw N sc e a) (fun e => ME c kw N sc e b) e
  | .lrange _ x y z => VLrange c sc (fun e => ME c kw N sc e x) (fun e => ME c kw N sc e y) (fun e => ME c kw N sc e z) e
  | .hdrs a => VHdrs (fun e => ME c kw N sc e a) e
noncomputable def MEs (c : Cx) (kw : Nat → List Str) (N : List Str) (sc : Scope) (es : List Expr) (ps : PEs) : Prop := match ps with
  | .nil => VNil es
  | .cons p r => VCons (fun e => ME c kw N sc e p) (fun l => MEs c kw N sc l r) es
end
theorem MEs.nil {c : Cx} {kw : Nat → List Str} {N : List Str} {sc : Scope} : MEs c kw N sc [] .nil := VNil.nil
theorem MEs.cons {c : Cx} {kw : Nat → List Str} {N : List Str} {sc : Scope} {e : Expr} {l : List Expr} {p : PE} {ps : PEs} (h1 : ME c kw N sc e p) (h2 : MEs c kw N sc l ps) : MEs c kw N sc (e :: l) (.cons p ps) := VCons.cons h1 h2
noncomputable def MEo (c : Cx) (kw : Nat → List Str) (N : List Str) (sc : Scope) (o : Option Expr) (p : PE) : Prop := VO (fun e => ME c kw N sc e p) p o
noncomputable def MG (c : Cx) (kw : Nat → List Str) (N : List Str) (sc : Scope) (g : Gn) (e : Expr) (a b : PE) : Prop := VG c sc (fun e => ME c kw N sc e a) (fun e => ME c kw N sc e b) b g e
noncomputable def MIf (c : Cx) (kw : Nat → List Str) (N : List Str) (sc : Scope) (l : List Expr) (q : Bool) (p : PE) : Prop := VIf (fun e => ME c kw N sc e p) l q

noncomputable def EvOk (c : Cx) (prog : Program) (w : World) (kw : Nat → List Str) (N : List Str) (Φ : Fns) (k : Nat) (p : PE) : Prop :=
  ∀ {sc : Scope} {e : Expr}, ME c kw N sc e p → ∀ {g : List Addr} {env : Env} {A : Around} {E : Value → Shared → Prop} {s : Shared} {φ : List Addr} {H : Hp} {m : Str → Option Value} {ρ : En} {r : V} {H' : Hp} {Q : Value → Shared → Prop},
    ScOk env sc → AOk A k → St (c.wg g) φ H env.locals m s.heap → ERel (c.wg g) N s.heap φ env m ρ → ev Φ p ρ H = some (r, H') → Post (c.wg g) φ env.locals m s r H' Q → wpAny (model prog w) A (eval e env) Q E s
noncomputable def TrOk (c : Cx) (prog : Program) (w : World) (kw : Nat → List Str) (N : List Str) (Φ : Fns) (k : Nat) (p : PE) : Prop :=
  ∀ {sc : Scope} {e : Expr}, ME c kw N sc e p → ∀ {g : List Addr} {env : Env} {A : Around} {E : Value → Shared → Prop} {s : Shared} {φ : List Addr} {H : Hp} {m : Str → Option Value} {ρ : En} {r : V} {b : Bool} {H' : Hp} {Q : Bool → Shared → Prop},
    ScOk env sc → AOk A k → St (c.wg g) φ H env.locals m s.heap → ERel (c.wg g) N s.heap φ env m ρ → ev Φ p ρ H = some (r, H') → truthV r = some b → PostB (c.wg g) φ env.locals m s b H' Q →
    wpAny (model prog w) A (isTrue e env (eval e env)) Q E s
noncomputable def EvsOk (c : Cx) (prog : Program) (w : World) (kw : Nat → List Str) (N : List Str) (Φ : Fns) (k : Nat) (ps : PEs) : Prop :=
  ∀ {sc : Scope} {es : List Expr}, MEs c kw N sc es ps → ∀ {g : List Addr} {env : Env} {A : Around} {E : Value → Shared → Prop} {s : Shared} {φ : List Addr} {H : Hp} {m : Str → Option Value} {ρ : En} {r : List V} {H' : Hp} {Q : List Value → Shared → Prop} {pos : Pos},
    ScOk env sc → AOk A k → St (c.wg g) φ H env.locals m s.heap → ERel (c.wg g) N s.heap φ env m ρ → evs Φ ps ρ H = some (r, H') → PostL (c.wg g) φ env.locals m s r H' Q →
    wpAny (model prog w) A (spliced (backTo pos (starEach es env))) Q E s

noncomputable def kE : Expr → Nat
  | .Compare .. => 1
  | .BoolOp .. => 1
  | .UnaryOp .. => 1
  | .IfExp .. => 1
  | .ListComp .. => 2
  | .BinOp .. => 3
  | .Call .. => 3
  | .Constant .. => 3
  | .Attribute .. => 3
  | .Subscript .. => 3
  | .Name .. => 3
  | .List .. => 3
  | .Tuple .. => 3
  | _ => 0
noncomputable def kP : PE → Nat
  | .cmp .. => 1
  | .isNone .. => 1
  | .typeIs .. => 1
  | .and .. => 1
  | .or .. => 1
  | .not .. => 1
  | .neg .. => 1
  | .ite .. => 1
  | .comp .. => 2
  | .comp2 .. => 2
  | _ => 3
theorem ME.kind {kw : Nat → List Str} {N : List Str} {sc : Scope} {e : Expr} {p : PE} (x : ME c kw N sc e p) : kE e = kP p := by
  cases p with
  | k v => exact VK.rec (motive := fun v e _ => kE e = 3) rfl rfl rfl (fun _ => rfl) (fun _ => rfl) x
  | bin op a b => exact VBin.rec (motive := fun e _ => kE e = _) (by intros; rfl) x
  | rep m a b => exact VRep.rec (motive := fun e _ => kE e = _) (by intros; rfl) x
  | cmp op a b => exact VCmp.rec (motive := fun e _ => kE e = _) (by intros; rfl) x
  | isNone n a => exact VIsNone.rec (motive := fun e _ => kE e = _) (by intros; rfl) x
  | typeIs n l a => exact VTypeIs.rec (motive := fun e _ => kE e = _) (by intros; rfl) x
  | and l => exact VAnd.rec (motive := fun e _ => kE e = _) (by intros; rfl) x
  | or l => exact VOr.rec (motive := fun e _ => kE e = _) (by intros; rfl) x
  | not a => exact VNot.rec (motive := fun e _ => kE e = _) (by intros; rfl) x
  | neg a => exact VNeg.rec (motive := fun e _ => kE e = _) (by intros; rfl) x
  | ite t a b => exact VIte.rec (motive := fun e _ => kE e = _) (by intros; rfl) x
  | idx a i => exact VIdx.rec (motive := fun e _ => kE e = _) (by intros; rfl) x
  | sl a l h => exact VSl.rec (motive := fun e _ => kE e = _) (by intros; rfl) x
  | tup l => exact VTup.rec (motive := fun e _ => kE e = _) (by intros; rfl) x
  | lst m l => exact VLst.rec (motive := fun e _ => kE e = _) (by intros; rfl) x
  | comp m e t g a b cl q c => exact VComp.rec (motive := fun e _ => kE e = _) (by intros; rfl) x
  | lrange m x y z => exact VLrange.rec (motive := fun e _ => kE e = _) (by intros; rfl) x
  | hdrs a => exact VHdrs.rec (motive := fun e _ => kE e = _) (by intros; rfl) x
  | var i => exact VVar.rec (motive := fun e _ => kE e = _) (by intros; rfl) x
  | glob i v => exact VGlob.rec (motive := fun e _ => kE e = _) (by intros; rfl) x
  | comp2 e t a u b cl => exact VComp2.rec (motive := fun e _ => kE e = _) (by intros; rfl) x
  | call f l => exact VCall.rec (motive := fun e _ => kE e = _) (by intros; rfl) (by intros; rfl) (by intros; rfl) x
  | b1 f a => exact VB1.rec (motive := fun e _ => kE e = _) (by intros; rfl) (by intros; rfl) x
  | b2 f a b => exact VB2.rec (motive := fun e _ => kE e = _) (by intros; rfl) (by intros; rfl) x
theorem kP_pos (p : PE) : kP p ≠ 0 := by cases p <;> exact nofun
theorem ME.pos {kw : Nat → List Str} {N : List Str} {sc : Scope} {e : Expr} {p : PE} (x : ME c kw N sc e p) : kE e ≠ 0 := x.kind ▸ kP_pos p
noncomputable def IsComp (p : PE) : Prop := ∃ mu pe t gn pa pb cls q pc, p = .comp mu pe t gn pa pb cls q pc
noncomputable def isC2 : PE → Bool
  | .comp2 .. => true
  | _ => false
theorem comp_of {p : PE} (h : kP p = 2) : IsComp p ∨ isC2 p = true := by
  cases p with
  | comp => exact .inl ⟨_, _, _, _, _, _, _, _, _, rfl⟩
  | comp2 => exact .inr rfl
  | _ => nomatch h
noncomputable def IsLc (e : Expr) : Prop := ∃ x g s p, e = .ListComp x g s p
theorem lc_of {e : Expr} (h : kE e = 2) : IsLc e := by
  cases e with
  | ListComp => exact ⟨_, _, _, _, rfl⟩
  | _ => nomatch h
structure Tame (e : Expr) : Prop where
  star : ∀ (rest : List Expr) (env : Env), starEach (e :: rest) env = (false, eval e env) :: starEach rest env
  fold : ∀ (env : Env) (v : Value), foldedSetIterable e env v = pure v
theorem tameOf {e : Expr} (h : kE e ≠ 0) : Tame e := by
  cases e <;> first | exact ⟨fun _ _ => rfl, fun _ _ => rfl⟩ | exact absurd rfl h
noncomputable def PlainT (e : Expr) : Prop := ∀ (env : Env) (whole : Sem Value), isTrue e env whole = (do let v ← whole; standAt e.pos; holding [v] (truthy v))
theorem plainOf {e : Expr} (h : kE e = 3) : PlainT e := by
  cases e <;> first | exact fun _ _ => rfl | nomatch h
theorem compOf {e : Expr} (h : kE e = 2) : PlainT e := by
  obtain ⟨_, _, _, _, rfl⟩ := lc_of h; exact fun _ _ => rfl
noncomputable def SwNo (e : Expr) : Prop := ∀ (t : Option Expr) (line : Nat) (env : Env), swapsWith e t line env = pure false
theorem swOf {e : Expr} (h : kE e ≠ 0) (h2 : kE e ≠ 2) : SwNo e := by
  cases e <;> first | exact fun _ _ _ => rfl | exact absurd rfl h | exact absurd rfl h2
theorem ME.star {kw : Nat → List Str} {N : List Str} {sc : Scope} {e : Expr} {p : PE} (x : ME c kw N sc e p) (rest : List Expr) (env : Env) : starEach (e :: rest) env = (false, eval e env) :: starEach rest env := (tameOf x.pos).star rest env
theorem ME.fold {kw : Nat → List Str} {N : List Str} {sc : Scope} {e : Expr} {p : PE} (x : ME c kw N sc e p) (env : Env) (v : Value) : foldedSetIterable e env v = pure v := (tameOf x.pos).fold env v
end Mine

-- M9
set_option autoImplicit false
set_option maxRecDepth 100000
namespace Mine
open PySem PySem.W PyProof.Rows

section
variable {c : Cx} {prog : Program} {w : World} {kw : Nat → List Str} {N : List Str} {Φ : Fns} {k : Nat}

theorem AOk.u {A : Around} (a : AOk A k) : A.units + 64 < cLine := by have := a.uni; omega

theorem glob_ok {x : Str} {v : Value} {A : Around} {E : Value → Shared → Prop} {s : Shared} {env : Env} {pos : Pos} {Q : Value → Shared → Prop} {g : List Addr} {φ : List Addr} {H : Hp} {m : Str → Option Value} {ρ : En} (G : GF c) (hg : c.gl x v)
    (hx : env.kindOf x = some .globalImplicit) (hd : (x == ("__debug__" : Str)) = false) (st : St (c.wg g) φ H env.locals m s.heap) (er : ERel (c.wg g) N s.heap φ env m ρ) (h : Q v s) : wpAny (model prog w) A (eval (.Name x pos) env) Q E s := by
  have ng : s.heap.Ns env.globals c.mg := by rw [er.gl]; exact G.g.at' fun o e => st.w.stays _ o e
  have nb : s.heap.Ns env.builtins c.mb := by rw [er.bi]; exact G.b.at' fun o e => st.w.stays _ o e
  rcases hg with hg | ⟨h1, h2⟩
  · exact Calls.Name_function_global er.fn hx (Calls.loadGlobal_global ng hg h) hd
  · exact Calls.Name_function_global er.fn hx (Calls.loadGlobal_builtin ng h1 nb h2 h) hd

theorem ev_k (v : V) : EvOk c prog w kw N Φ k (.k v) := by
  intro sc e hm g env A E s φ H m ρ r H' Q so ao st er he p
  obtain ⟨rfl, rfl⟩ := some2 he
  cases hm with
  | none => exact wpAny_Constant_none (Out.post p st (val := .none) (tk := s.toks) rfl)
  | bool => exact wpAny_Constant_bool (Out.post p st (tk := s.toks) rfl)
  | int => exact wpAny_Constant_int (Out.post p st ⟨_, rfl⟩)
  | str hx => subst hx; exact wpAny_Constant_str (Out.post p st ⟨_, rfl⟩)
  | debug hd =>
    rename_i id pos
    have e0 : id = ("__debug__" : Str) := by simpa using hd
    subst e0
    show wpAny _ A (do standAt pos; if ("__debug__" : Str) == ("__debug__" : Str) then debugConstant else loadName env "__debug__") Q E s
    refine wpAny_bind (wpAny_standAt ?_)
    rw [if_pos (by simp)]
    exact wpAny_bind (wpAny_rule (wpAny_pure (Out.post p st (tk := s.toks) rfl)))

theorem load_ok {g : List Addr} {env : Env} {sc : Scope} {A : Around} {E : Value → Shared → Prop} {s : Shared} {φ : List Addr} {H : Hp} {m : Str → Option Value} {ρ : En} {x : Nat} {id : Str} {v : V} {Q : Value → Shared → Prop}
    (so : ScOk env sc) (st : St (c.wg g) φ H env.locals m s.heap) (er : ERel (c.wg g) N s.heap φ env m ρ) (hN : N[x]? = some id) (hk : sc.names.lookup id = some .local ∨ sc.names.lookup id = some .cell ∨ sc.names.lookup id = some .free)
    (hcd : (id == ("__classdict__" : Str)) = false) (hv : getE ρ x = some v) (h : ∀ y, VRel (c.wg g) s.heap φ v y → Q y s) : wpAny (model prog w) A (loadName env id) Q E s := by
  have cf : env.kindOf id = some .cell ∨ env.kindOf id = some .free → wpAny (model prog w) A (loadName env id) Q E s := by
    intro hk
    obtain ⟨a, y, h1, h2, h3⟩ := er.cel x v id hv hN hk
    rcases hk with hk | hk
    · exact wpAny_loadName_cell er.fn hk h1 h2 (h y h3)
    · exact wpAny_loadName_free er.fn hk h1 h2 (h y h3) hcd
  rcases hk with hk | hk | hk
  · have hk := so.loc _ hk
    obtain ⟨y, h1, h2⟩ := er.loc x v id hv hN hk
    exact wpAny_loadName_local er.fn hk st.l.ns h1 (h y h2)
  · exact cf (.inl (so.cel _ hk))
  · exact cf ((so.fre _ hk).symm)

theorem ev_var (x : Nat) : EvOk c prog w kw N Φ k (.var x) := by
  intro sc e hm g env A E s φ H m ρ r H' Q so ao st er he p
  cases hm with
  | var hN hk hd hcd =>
    obtain ⟨v, hv, rfl, rfl⟩ := om_inv he
    exact wpAny_Name (load_ok so st er hN hk hcd hv fun y hy => Out.post p st (tk := s.toks) hy) hd

theorem ev_glob (G : GF c) (x : Nat) (v : V) : EvOk c prog w kw N Φ k (.glob x v) := by
  intro sc e hm g env A E s φ H m ρ r H' Q so ao st er he p
  cases hm with
  | glob hg hv hk hd =>
    obtain ⟨rfl, rfl⟩ := some2 he
    exact glob_ok G hg (so.glo _ hk) hd st er (Out.post p st (tk := s.toks) (hv _ _ _))

theorem ev_bin {op : BOp} {a b : PE} (ha : EvOk c prog w kw N Φ k a) (hb : EvOk c prog w kw N Φ k b) : EvOk c prog w kw N Φ k (.bin op a b) := by
  intro sc e hm g env A E s φ H m ρ r H' Q so ao st er he p
  cases hm with
  | bin m1 m2 =>
    refine ob_elim he fun x H1 e1 he => ?_
    refine ob_elim he fun y H2 e2 he => ?_
    obtain ⟨z, hz, rfl, rfl⟩ := om_inv he
    refine wpAny_BinOp (ha m1 so ao st er e1 fun v1 h1 t1 φ1 u1 st1 r1 => hb m2 so ao st1 (er.up st u1) e2 fun v2 h2 t2 φ2 u2 st2 r2 => ?_)
    exact bin_ok hz st2 (r1.up st1.w st1.l u2) r2 ((p.after (u1.trans st1.w st1.l u2) st2).out st2)

theorem ev_cmp {op : COp} {a b : PE} (ha : EvOk c prog w kw N Φ k a) (hb : EvOk c prog w kw N Φ k b) : EvOk c prog w kw N Φ k (.cmp op a b) := by
  intro sc e hm g env A E s φ H m ρ r H' Q so ao st er he p
  cases hm with
  | cmp m1 m2 hbm =>
    refine ob_elim he fun x H1 e1 he => ?_
    refine ob_elim he fun y H2 e2 he => ?_
    obtain ⟨z, hz, rfl, rfl⟩ := om_inv he
    refine wpAny_Compare1 (ha m1 so ao st er e1 fun v1 h1 t1 φ1 u1 st1 r1 => hb m2 so ao st1 (er.up st u1) e2 fun v2 h2 t2 φ2 u2 st2 r2 => ?_) hbm
    exact cmp_ok hz st2.w (r1.up st1.w st1.l u2) r2 ao.u (p _ _ _ _ (u1.trans st1.w st1.l u2) st2 rfl)
theorem tr_cmp {op : COp} {a b : PE} (ha : EvOk c prog w kw N Φ k a) (hb : EvOk c prog w kw N Φ k b) : TrOk c prog w kw N Φ k (.cmp op a b) := by
  intro sc e hm g env A E s φ H m ρ r bb H' Q so ao st er he ht p
  cases hm with
  | cmp m1 m2 hbm =>
    refine ob_elim he fun x H1 e1 he => ?_
    refine ob_elim he fun y H2 e2 he => ?_
    obtain ⟨z, hz, rfl, rfl⟩ := om_inv he
    cases ht
    refine wpAny_isTrue_Compare1 (ha m1 so ao st er e1 fun v1 h1 t1 φ1 u1 st1 r1 => hb m2 so ao st1 (er.up st u1) e2 fun v2 h2 t2 φ2 u2 st2 r2 => ?_) hbm
    exact cmp_ok hz st2.w (r1.up st1.w st1.l u2) r2 ao.u (wpAny_truthy_bool (p _ _ _ (u1.trans st1.w st1.l u2) st2))

theorem tr_of {q : PE} (hq : EvOk c prog w kw N Φ k q) (plain : ∀ {sc e}, ME c kw N sc e q → ∀ env whole, isTrue e env whole = (do let v ← whole; standAt e.pos; holding [v] (truthy v))) : TrOk c prog w kw N Φ k q := by
  intro sc e hm g env A E s φ H m ρ r b H' Q so ao st er he ht p
  exact wpAny_isTrue_value (hq hm so ao st er he fun v1 h1 t1 φ1 u1 st1 r1 => truth_ok ht r1 fun tk => p h1 tk φ1 u1 st1) (plain hm env _)

theorem ev_not {a : PE} (ha : EvOk c prog w kw N Φ k a) : EvOk c prog w kw N Φ k (.not a) := by
  intro sc e hm g env A E s φ H m ρ r H' Q so ao st er he p
  cases hm with
  | not m1 =>
    refine ob_elim he fun x H1 e1 he => ?_
    obtain ⟨z, hz, rfl, rfl⟩ := om_inv he
    exact wpAny_UnaryOp (ha m1 so ao st er e1 fun v1 h1 t1 φ1 u1 st1 r1 => not_value (truth_ok hz r1 fun tk => p _ _ _ _ u1 st1 rfl))
theorem tr_not {a : PE} (ha : TrOk c prog w kw N Φ k a) : TrOk c prog w kw N Φ k (.not a) := by
  intro sc e hm g env A E s φ H m ρ r b H' Q so ao st er he ht p
  cases hm with
  | not m1 =>
    refine ob_elim he fun x H1 e1 he => ?_
    obtain ⟨z, hz, rfl, rfl⟩ := om_inv he; cases ht
    exact wpAny_isTrue_Not (ha m1 so ao st er e1 hz fun h1 t1 φ1 u1 st1 => p _ _ _ u1 st1)

theorem ev_neg {a : PE} (ha : EvOk c prog w kw N Φ k a) : EvOk c prog w kw N Φ k (.neg a) := by
  intro sc e hm g env A E s φ H m ρ r H' Q so ao st er he p
  cases hm with
  | neg m1 =>
    refine obI_elim he fun i H1 e1 he => ?_
    obtain ⟨rfl, rfl⟩ := some2 he
    refine wpAny_UnaryOp (ha m1 so ao st er e1 fun v1 h1 t1 φ1 u1 st1 r1 => ?_)
    obtain ⟨t, rfl⟩ := r1
    exact P.neg_int (p _ _ _ _ u1 st1 ⟨_, rfl⟩)

theorem ev_ite {t a b : PE} (ht : TrOk c prog w kw N Φ k t) (ha : EvOk c prog w kw N Φ k a) (hb : EvOk c prog w kw N Φ k b) : EvOk c prog w kw N Φ k (.ite t a b) := by
  intro sc e hm g env A E s φ H m ρ r H' Q so ao st er he p
  cases hm with
  | ite m1 m2 m3 =>
    refine ob_elim he fun x H1 e1 he => ?_
    exact obT_elim he (fun hx he => wpAny_IfExp (ht m1 so ao st er e1 hx fun h1 t1 φ1 u1 st1 => ha m2 so ao st1 (er.up st u1) he (p.after u1 st1)))
      fun hx he => wpAny_IfExp (ht m1 so ao st er e1 hx fun h1 t1 φ1 u1 st1 => hb m3 so ao st1 (er.up st u1) he (p.after u1 st1))

theorem VRel.kind (G : GF c) {g : List Addr} {x : V} {v1 : Value} {h1 : Heap} {φ1 : List Addr} (r1 : VRel (c.wg g) h1 φ1 x v1) : handedIn v1 = true ∧ (v1 == .none) = isNoneV false x := by
  cases x with
  | none => cases r1; exact ⟨rfl, rfl⟩
  | bool => cases r1; exact ⟨rfl, rfl⟩
  | int => obtain ⟨_, rfl⟩ := r1; exact ⟨rfl, rfl⟩
  | str => obtain ⟨_, rfl⟩ := r1; exact ⟨rfl, rfl⟩
  | tup => obtain ⟨_, _, _, rfl, _⟩ := r1; exact ⟨rfl, rfl⟩
  | lst => obtain ⟨_, _, _, rfl, _⟩ := r1; exact ⟨rfl, rfl⟩
  | rng => obtain ⟨_, _, _, _, rfl, _⟩ := r1; exact ⟨rfl, rfl⟩
  | cell => obtain ⟨_, rfl, _⟩ := r1; exact ⟨rfl, rfl⟩
  | hdr => obtain ⟨_, _, _, _, _, _, rfl, _⟩ := r1; exact ⟨rfl, rfl⟩
  | pat k =>
    obtain ⟨a, ha⟩ := G.pvr k
    have r1 : v1 = c.pv _ := r1
    rw [r1, ha]; exact ⟨rfl, rfl⟩
theorem VRel.none_iff (G : GF c) {g : List Addr} {x : V} {v1 : Value} {h1 : Heap} {φ1 : List Addr} (r1 : VRel (c.wg g) h1 φ1 x v1) : (v1 == .none) = isNoneV false x := (r1.kind G).2
theorem isNoneV_true (x : V) : isNoneV true x = !isNoneV false x := by cases x <;> rfl
theorem ev_isNone (G : GF c) {neg : Bool} {a : PE} (ha : EvOk c prog w kw N Φ k a) : EvOk c prog w kw N Φ k (.isNone neg a) := by
  intro sc e hm g env A E s φ H m ρ r H' Q so ao st er he p
  cases hm with
  | isNone m1 =>
    refine ob_elim he fun x H1 e1 he => ?_
    obtain ⟨rfl, rfl⟩ := some2 he
    refine wpAny_Compare1 (ha m1 so ao st er e1 fun v1 h1 t1 φ1 u1 st1 r1 => wpAny_Constant_none ?_) (by cases neg <;> rfl)
    cases neg
    · exact is_none (p _ _ _ _ u1 st1 (by rw [r1.none_iff G]; rfl))
    · exact isNot_none (p _ _ _ _ u1 st1 (by rw [r1.none_iff G, ← isNoneV_true]; rfl))
end
end Mine

-- M10
set_option autoImplicit false
set_option maxRecDepth 100000
namespace Mine
open PySem PySem.W PyProof.Rows

section
variable {c : Cx} {prog : Program} {w : World} {kw : Nat → List Str} {N : List Str} {Φ : Fns} {k : Nat}

noncomputable def AndOk (c : Cx) (prog : Program) (w : World) (kw : Nat → List Str) (N : List Str) (Φ : Fns) (k : Nat) (ps : PEs) : Prop :=
  ∀ {sc : Scope} {es : List Expr}, MEs c kw N sc es ps → ∀ {g : List Addr} {env : Env} {A : Around} {E : Value → Shared → Prop} {s : Shared} {φ : List Addr} {H : Hp} {m : Str → Option Value} {ρ : En} {r : V} {H' : Hp} {Q : Value → Shared → Prop} {pos : Pos},
    ScOk env sc → AOk A k → St (c.wg g) φ H env.locals m s.heap → ERel (c.wg g) N s.heap φ env m ρ → evAnd Φ ps ρ H = some (r, H') → Post (c.wg g) φ env.locals m s r H' Q →
    wpAny (model prog w) A (boolOp pos .And (evalEach es env)) Q E s
noncomputable def OrOk (c : Cx) (prog : Program) (w : World) (kw : Nat → List Str) (N : List Str) (Φ : Fns) (k : Nat) (ps : PEs) : Prop :=
  ∀ {sc : Scope} {es : List Expr}, MEs c kw N sc es ps → ∀ {g : List Addr} {env : Env} {A : Around} {E : Value → Shared → Prop} {s : Shared} {φ : List Addr} {H : Hp} {m : Str → Option Value} {ρ : En} {r : V} {H' : Hp} {Q : Value → Shared → Prop} {pos : Pos},
    ScOk env sc → AOk A k → St (c.wg g) φ H env.locals m s.heap → ERel (c.wg g) N s.heap φ env m ρ → evOr Φ ps ρ H = some (r, H') → Post (c.wg g) φ env.locals m s r H' Q →
    wpAny (model prog w) A (boolOp pos .Or (evalEach es env)) Q E s
noncomputable def AndT (c : Cx) (prog : Program) (w : World) (kw : Nat → List Str) (N : List Str) (Φ : Fns) (k : Nat) (ps : PEs) : Prop :=
  ∀ {sc : Scope} {es : List Expr}, MEs c kw N sc es ps → ∀ {g : List Addr} {env : Env} {A : Around} {E : Value → Shared → Prop} {s : Shared} {φ : List Addr} {H : Hp} {m : Str → Option Value} {ρ : En} {r : V} {b : Bool} {H' : Hp} {Q : Bool → Shared → Prop},
    ScOk env sc → AOk A k → St (c.wg g) φ H env.locals m s.heap → ERel (c.wg g) N s.heap φ env m ρ → evAnd Φ ps ρ H = some (r, H') → truthV r = some b → PostB (c.wg g) φ env.locals m s b H' Q →
    wpAny (model prog w) A (allTrue .And es env) Q E s
noncomputable def OrT (c : Cx) (prog : Program) (w : World) (kw : Nat → List Str) (N : List Str) (Φ : Fns) (k : Nat) (ps : PEs) : Prop :=
  ∀ {sc : Scope} {es : List Expr}, MEs c kw N sc es ps → ∀ {g : List Addr} {env : Env} {A : Around} {E : Value → Shared → Prop} {s : Shared} {φ : List Addr} {H : Hp} {m : Str → Option Value} {ρ : En} {r : V} {b : Bool} {H' : Hp} {Q : Bool → Shared → Prop},
    ScOk env sc → AOk A k → St (c.wg g) φ H env.locals m s.heap → ERel (c.wg g) N s.heap φ env m ρ → evOr Φ ps ρ H = some (r, H') → truthV r = some b → PostB (c.wg g) φ env.locals m s b H' Q →
    wpAny (model prog w) A (allTrue .Or es env) Q E s

theorem evs_nil : EvsOk c prog w kw N Φ k .nil := by
  intro sc es hm g env A E s φ H m ρ r H' Q pos so ao st er he p
  cases hm
  obtain ⟨rfl, rfl⟩ := some2 he
  exact wpAny_items_nil (p [] s.heap s.toks φ (.refl ..) st rfl)
theorem evs_cons {a : PE} {l : PEs} (ha : EvOk c prog w kw N Φ k a) (hl : EvsOk c prog w kw N Φ k l) : EvsOk c prog w kw N Φ k (.cons a l) := by
  intro sc es hm g env A E s φ H m ρ r H' Q pos so ao st er he p
  cases hm with
  | cons m1 m2 =>
    refine ob_elim he fun x H1 e1 he => ?_
    refine ob_elim he fun y H2 e2 he => ?_
    obtain ⟨rfl, rfl⟩ := some2 he
    refine wpAny_items_cons (ha m1 so ao st er e1 fun v1 h1 t1 φ1 u1 st1 r1 => hl m2 so ao st1 (er.up st u1) e2 fun v2 h2 t2 φ2 u2 st2 r2 => ?_) (m1.star _ _)
    exact p _ _ _ _ (u1.trans st1.w st1.l u2) st2 (.cons (r1.up st1.w st1.l u2) r2)

theorem and_nil : AndOk c prog w kw N Φ k .nil := by
  intro sc es hm g env A E s φ H m ρ r H' Q pos so ao st er he p
  exact nosome he
theorem or_nil : OrOk c prog w kw N Φ k .nil := by
  intro sc es hm g env A E s φ H m ρ r H' Q pos so ao st er he p
  exact nosome he
theorem and_cons {a : PE} {l : PEs} (ha : EvOk c prog w kw N Φ k a) (hl : AndOk c prog w kw N Φ k l) : AndOk c prog w kw N Φ k (.cons a l) := by
  intro sc es hm g env A E s φ H m ρ r H' Q pos so ao st er he p
  cases hm with
  | cons m1 m2 =>
    rename_i e1 es1
    cases l with
    | nil =>
      cases m2
      exact ha m1 so ao st er he p
    | cons b l =>
      have m2' := m2
      cases m2' with
      | cons m3 m4 =>
        rename_i e2 es2
        refine ob_elim he fun v1 H1 h1 he => ?_
        show wpAny _ A (do
          let v ← eval e1 env
          standAt pos
          let t ← holding [v] (truthy v)
          match BoolOp.And, t with
          | .And, false | .Or, true => pure v
          | _, _ => boolOp pos .And (evalEach (e2 :: es2) env)) Q E s
        refine wpAny_bind (ha m1 so ao st er h1 fun x1 g1 t1 φ1 u1 st1 r1 => wpAny_bind (wpAny_standAt (wpAny_bind (wpAny_holding ?_))))
        refine obT_elim he (fun ht he => ?_) fun ht he => ?_
        · exact truth_ok ht r1 fun tk => hl m2 so ao (s := (sht s g1 tk)) st1 (er.up st u1) he (p.after u1 st1)
        · obtain ⟨rfl, rfl⟩ := some2 he
          exact truth_ok ht r1 fun tk => wpAny_pure (p _ _ _ _ u1 st1 r1)
theorem or_cons {a : PE} {l : PEs} (ha : EvOk c prog w kw N Φ k a) (hl : OrOk c prog w kw N Φ k l) : OrOk c prog w kw N Φ k (.cons a l) := by
  intro sc es hm g env A E s φ H m ρ r H' Q pos so ao st er he p
  cases hm with
  | cons m1 m2 =>
    rename_i e1 es1
    cases l with
    | nil =>
      cases m2
      exact ha m1 so ao st er he p
    | cons b l =>
      have m2' := m2
      cases m2' with
      | cons m3 m4 =>
        rename_i e2 es2
        refine ob_elim he fun v1 H1 h1 he => ?_
        show wpAny _ A (do
          let v ← eval e1 env
          standAt pos
          let t ← holding [v] (truthy v)
          match BoolOp.Or, t with
          | .And, false | .Or, true => pure v
          | _, _ => boolOp pos .Or (evalEach (e2 :: es2) env)) Q E s
        refine wpAny_bind (ha m1 so ao st er h1 fun x1 g1 t1 φ1 u1 st1 r1 => wpAny_bind (wpAny_standAt (wpAny_bind (wpAny_holding ?_))))
        refine obT_elim he (fun ht he => ?_) fun ht he => ?_
        · obtain ⟨rfl, rfl⟩ := some2 he
          exact truth_ok ht r1 fun tk => wpAny_pure (p _ _ _ _ u1 st1 r1)
        · exact truth_ok ht r1 fun tk => hl m2 so ao (s := (sht s g1 tk)) st1 (er.up st u1) he (p.after u1 st1)
theorem andT_nil : AndT c prog w kw N Φ k .nil := by
  intro sc es hm g env A E s φ H m ρ r b H' Q so ao st er he ht p
  exact nosome he
theorem orT_nil : OrT c prog w kw N Φ k .nil := by
  intro sc es hm g env A E s φ H m ρ r b H' Q so ao st er he ht p
  exact nosome he
theorem andT_cons {a : PE} {l : PEs} (ha : TrOk c prog w kw N Φ k a) (hl : AndT c prog w kw N Φ k l) : AndT c prog w kw N Φ k (.cons a l) := by
  intro sc es hm g env A E s φ H m ρ r b H' Q so ao st er he ht p
  cases hm with
  | cons m1 m2 =>
    rename_i e1 es1
    cases l with
    | nil =>
      cases m2
      refine wpAny_allTrue_And_cons (ha m1 so ao st er he ht fun h1 t1 φ1 u1 st1 => ?_)
      cases b
      · exact p _ _ _ u1 st1
      · exact wpAny_allTrue_And_nil (p _ _ _ u1 st1)
    | cons q l =>
      refine ob_elim he fun v1 H1 h1 he => ?_
      refine obT_elim he (fun hx he => ?_) fun hx he => ?_
      · exact wpAny_allTrue_And_cons (ha m1 so ao st er h1 hx fun g1 t1 φ1 u1 st1 => hl m2 so ao st1 (er.up st u1) he ht (p.after u1 st1))
      · obtain ⟨rfl, rfl⟩ := some2 he
        rw [hx] at ht; obtain rfl := someq ht
        exact wpAny_allTrue_And_cons (ha m1 so ao st er h1 hx fun g1 t1 φ1 u1 st1 => p _ _ _ u1 st1)
theorem orT_cons {a : PE} {l : PEs} (ha : TrOk c prog w kw N Φ k a) (hl : OrT c prog w kw N Φ k l) : OrT c prog w kw N Φ k (.cons a l) := by
  intro sc es hm g env A E s φ H m ρ r b H' Q so ao st er he ht p
  cases hm with
  | cons m1 m2 =>
    rename_i e1 es1
    cases l with
    | nil =>
      cases m2
      refine wpAny_allTrue_Or_cons (ha m1 so ao st er he ht fun h1 t1 φ1 u1 st1 => ?_)
      cases b
      · exact wpAny_allTrue_Or_nil (p _ _ _ u1 st1)
      · exact p _ _ _ u1 st1
    | cons q l =>
      refine ob_elim he fun v1 H1 h1 he => ?_
      refine obT_elim he (fun hx he => ?_) fun hx he => ?_
      · obtain ⟨rfl, rfl⟩ := some2 he
        rw [hx] at ht; obtain rfl := someq ht
        exact wpAny_allTrue_Or_cons (ha m1 so ao st er h1 hx fun g1 t1 φ1 u1 st1 => p _ _ _ u1 st1)
      · exact wpAny_allTrue_Or_cons (ha m1 so ao st er h1 hx fun g1 t1 φ1 u1 st1 => hl m2 so ao st1 (er.up st u1) he ht (p.after u1 st1))

theorem ev_and {l : PEs} (hl : AndOk c prog w kw N Φ k l) : EvOk c prog w kw N Φ k (.and l) := by
  intro sc e hm g env A E s φ H m ρ r H' Q so ao st er he p
  cases hm with
  | and m1 => exact hl m1 so ao st er he p
theorem ev_or {l : PEs} (hl : OrOk c prog w kw N Φ k l) : EvOk c prog w kw N Φ k (.or l) := by
  intro sc e hm g env A E s φ H m ρ r H' Q so ao st er he p
  cases hm with
  | or m1 => exact hl m1 so ao st er he p
theorem tr_and {l : PEs} (hl : AndT c prog w kw N Φ k l) : TrOk c prog w kw N Φ k (.and l) := by
  intro sc e hm g env A E s φ H m ρ r b H' Q so ao st er he ht p
  cases hm with
  | and m1 => exact wpAny_isTrue_BoolOp (hl m1 so ao st er he ht p)
theorem tr_or {l : PEs} (hl : OrT c prog w kw N Φ k l) : TrOk c prog w kw N Φ k (.or l) := by
  intro sc e hm g env A E s φ H m ρ r b H' Q so ao st er he ht p
  cases hm with
  | or m1 => exact wpAny_isTrue_BoolOp (hl m1 so ao st er he ht p)
theorem tr_ite {t a b : PE} (ht : TrOk c prog w kw N Φ k t) (ha : TrOk c prog w kw N Φ k a) (hb : TrOk c prog w kw N Φ k b) : TrOk c prog w kw N Φ k (.ite t a b) := by
  intro sc e hm g env A E s φ H m ρ r bb H' Q so ao st er he hr p
  cases hm with
  | ite m1 m2 m3 =>
    rename_i t' a' b' pos
    show wpAny _ A (do if ← isTrue t' env (eval t' env) then isTrue a' env (eval a' env) else isTrue b' env (eval b' env)) Q E s
    refine ob_elim he fun x H1 e1 he => ?_
    refine obT_elim he (fun hx he => ?_) fun hx he => ?_
    · exact wpAny_bind (ht m1 so ao st er e1 hx fun h1 t1 φ1 u1 st1 => ha m2 so ao st1 (er.up st u1) he hr (p.after u1 st1))
    · exact wpAny_bind (ht m1 so ao st er e1 hx fun h1 t1 φ1 u1 st1 => hb m3 so ao st1 (er.up st u1) he hr (p.after u1 st1))
theorem isTrue_of_cmp {M : Model} {A : Around} {E : Value → Shared → Prop} {s : Shared} {env : Env} {l r : Expr} {op : CmpOp} {pos : Pos} {whole : Sem Value} {Q : Bool → Shared → Prop}
    (h : wpAny M A (eval (.Compare l [op] [r] pos) env) (fun v s₁ => wpAny M A (truthy v) Q E s₁) E s) : wpAny M A (isTrue (.Compare l [op] [r] pos) env whole) Q E s := by
  have e : isTrue (.Compare l [op] [r] pos) env whole = (eval (.Compare l [op] [r] pos) env >>= fun c => holding [c] (truthy c)) := by
    rw [isTrue_Compare1, eval_Compare1]
    simp only [bind_assoc]
  rw [e]
  exact wpAny_bind (wpAny_mono h (fun v s₁ h₁ => wpAny_holding h₁) fun _ _ x => x)
theorem tr_isNone (G : GF c) {neg : Bool} {a : PE} (ha : EvOk c prog w kw N Φ k a) : TrOk c prog w kw N Φ k (.isNone neg a) := by
  intro sc e hm g env A E s φ H m ρ r b H' Q so ao st er he ht p
  have hq := ev_isNone (prog := prog) (w := w) (Φ := Φ) (k := k) G (neg := neg) ha hm (A := A) (E := E) (Q := fun v s₁ => wpAny (model prog w) A (truthy v) Q E s₁) so ao st er he fun v h1 t1 φ1 u1 st1 r1 => truth_ok ht r1 fun tk => p _ _ _ u1 st1
  cases hm with
  | isNone m1 => exact isTrue_of_cmp hq
end
end Mine

-- M11
set_option autoImplicit false
set_option maxRecDepth 100000
namespace Mine
open PySem PySem.W PyProof.Rows

section
variable {c : Cx} {g : List Addr} {D : Addr} {φ : List Addr} {h h' : Heap}

mutual
theorem VRel.ungh (ψ : List Addr) (hψ : ∀ a ∈ ψ, a = D) (ext : ∀ a ∈ φ, ∃ xs n, h.get? a = some (lobj xs n)) : ∀ {v : V} {x : Value}, VRel (c.wg (D :: g)) h φ v x → VRel (c.wg g) h (φ ++ ψ) v x
  | .none, _, r => r
  | .bool _, _, r => r
  | .int _, _, r => r
  | .str _, _, r => r
  | .tup l, x, r => by
    obtain ⟨a, xs, n, rfl, h0, h1, hs⟩ := r
    exact ⟨a, xs, n, rfl, h0, fun q => h1 (.tail _ q), VRels.ungh ψ hψ ext hs⟩
  | .lst l, x, r => by
    obtain ⟨a, xs, n, rfl, h0, hn, h1, hs⟩ := r
    refine ⟨a, xs, n, rfl, h0, fun q => ?_, fun q => h1 (.tail _ q), VRels.ungh ψ hψ ext hs⟩
    rcases List.mem_append.mp q with q | q
    · exact hn q
    · exact h1 (hψ a q ▸ .head _)
  | .rng n, x, r => r
  | .cell n, x, r => by
    obtain ⟨a, rfl, h0⟩ := r
    exact ⟨a, rfl, by rw [List.getElem?_append_left (List.getElem?_eq_some_iff.mp h0).1]; exact h0⟩
  | .hdr v, x, r => by
    obtain ⟨a, dx, hh, tk, n, y, rfl, h1, h2, h3⟩ := r
    exact ⟨a, dx, hh, tk, n, y, rfl, h1, h2, VRel.ungh ψ hψ ext h3⟩
  | .pat _, _, r => r
theorem VRels.ungh (ψ : List Addr) (hψ : ∀ a ∈ ψ, a = D) (ext : ∀ a ∈ φ, ∃ xs n, h.get? a = some (lobj xs n)) : ∀ {l : List V} {xs : List Value}, VRels (c.wg (D :: g)) h φ l xs → VRels (c.wg g) h (φ ++ ψ) l xs
  | [], _, r => r
  | v :: l, xs, r => by
    obtain ⟨y, t, rfl, h1, h2⟩ := r
    exact ⟨y, t, rfl, VRel.ungh ψ hψ ext h1, VRels.ungh ψ hψ ext h2⟩
end

mutual
theorem VRel.newgh (hn : h.get? D = none) : ∀ {v : V} {x : Value}, VRel (c.wg g) h φ v x → VRel (c.wg (D :: g)) h φ v x
  | .none, _, r => r
  | .bool _, _, r => r
  | .int _, _, r => r
  | .str _, _, r => r
  | .tup l, x, r => by
    obtain ⟨a, xs, n, rfl, h0, h1, hs⟩ := r
    refine ⟨a, xs, n, rfl, h0, fun q => ?_, VRels.newgh hn hs⟩
    rcases List.mem_cons.mp q with q | q
    · rw [q, hn] at h0; cases h0
    · exact h1 q
  | .lst l, x, r => by
    obtain ⟨a, xs, n, rfl, h0, h2, h1, hs⟩ := r
    refine ⟨a, xs, n, rfl, h0, h2, fun q => ?_, VRels.newgh hn hs⟩
    rcases List.mem_cons.mp q with q | q
    · rw [q, hn] at h0; cases h0
    · exact h1 q
  | .rng n, x, r => r
  | .cell n, x, r => r
  | .hdr v, x, r => by
    obtain ⟨a, dx, hh, tk, n, y, rfl, h1, h2, h3⟩ := r
    exact ⟨a, dx, hh, tk, n, y, rfl, h1, h2, VRel.newgh hn h3⟩
  | .pat _, _, r => r
theorem VRels.newgh (hn : h.get? D = none) : ∀ {l : List V} {xs : List Value}, VRels (c.wg g) h φ l xs → VRels (c.wg (D :: g)) h φ l xs
  | [], _, r => r
  | v :: l, xs, r => by
    obtain ⟨y, t, rfl, h1, h2⟩ := r
    exact ⟨y, t, rfl, VRel.newgh hn h1, VRels.newgh hn h2⟩
end

variable {H H' : Hp} {L : Addr} {m : Str → Option Value}

theorem St.newgh {o : Obj} (st : St (c.wg g) φ H L m h) (k : KeepL L h h') (ns : h'.Ns L m) (hn : h.get? D = none) (hd : h'.get? D = some o) (hs : isSeq o) : St (c.wg (D :: g)) φ H L m h' := by
  have w := st.w
  have lo : Lo (c.wg (D :: g)) L m h := ⟨st.l.ns, st.l.nk, st.l.above⟩
  refine ⟨⟨fun a ha => ?_, fun a o e => k _ _ (w.stays a o e) (fun q => by rw [q] at e; have := st.l.new; dsimp only at this e; rw [this] at e; cases e), w.fresh, w.nodup, w.len, fun n l e => ?_⟩, ns, st.l.nk, st.l.above⟩
  · rcases List.mem_cons.mp ha with rfl | ha
    · refine ⟨w.none0 hn, fun hm => ?_, o, hd, hs⟩
      obtain ⟨xs, n, e⟩ := w.isL _ hm
      rw [hn] at e; cases e
    · obtain ⟨h1, h2, o, e, q⟩ := w.ghs a ha
      exact ⟨h1, h2, o, k _ _ e (st.l.notSeq e q), q⟩
  · obtain ⟨a, xs, n, h1, h2, h3⟩ := w.cells n l e
    have gg : ∀ a ∈ D :: g, ∀ o, h.get? a = some o → isSeq o := fun a ha o e => by
      rcases List.mem_cons.mp ha with rfl | ha
      · rw [hn] at e; cases e
      · exact w.gh a ha o e
    refine ⟨a, xs, n, h1, k _ _ h2 (st.l.notDur h2 trivial), VRels.mono (c := (c.wg (D :: g))) (fun a o e _ _ d => k a o e (lo.notDur e d)) w.isL gg ⟨[], by simp, by simp⟩ (VRels.newgh hn h3)⟩
theorem VRels.togh (st : St (c.wg g) φ H L m h) (k : KeepL L h h') (hn : h.get? D = none) {v : List V} {x : List Value} (r : VRels (c.wg g) h φ v x) : VRels (c.wg (D :: g)) h' φ v x :=
  VRels.mono (c := (c.wg (D :: g))) (fun a o e _ _ d => k a o e (st.l.notDur e d)) st.w.isL (fun a ha o e => by
    rcases List.mem_cons.mp ha with rfl | ha
    · rw [hn] at e; cases e
    · exact st.w.gh a ha o e) ⟨[], by simp, by simp⟩ (VRels.newgh hn r)

theorem St.drop (st : St (c.wg (D :: g)) φ H L m h) : St (c.wg g) φ H L m h := by
  have w := st.w
  refine ⟨⟨fun a ha => w.ghs a (.tail _ ha), w.stays, w.fresh, w.nodup, w.len, fun n l e => ?_⟩, ⟨st.l.ns, st.l.nk, st.l.above⟩⟩
  obtain ⟨a, xs, n, h1, h2, h3⟩ := w.cells n l e
  have := VRels.ungh [] (by simp) w.isL h3
  rw [List.append_nil] at this
  exact ⟨a, xs, n, h1, h2, this⟩
theorem VRels.drop1 (st : St (c.wg (D :: g)) φ H L m h) {v : List V} {x : List Value} (r : VRels (c.wg (D :: g)) h φ v x) : VRels (c.wg g) h φ v x := by
  have := VRels.ungh [] (by simp) st.w.isL r
  rwa [List.append_nil] at this

theorem mkL_gh {mu : Bool} {l : List V} {r : V} {xs : List Value} {n : Nat} (e : mkL mu l H = some (r, H')) (st : St (c.wg (D :: g)) φ H L m h) (hD : D ∉ g) (ha : h.get? D = some (lobj xs n)) (rs : VRels (c.wg (D :: g)) h φ l xs) :
    ∃ ψ, (∀ a ∈ ψ, a = D) ∧ St (c.wg g) (φ ++ ψ) H' L m h ∧ VRel (c.wg g) h (φ ++ ψ) r (.ref D) := by
  have w := st.w
  have hφ : D ∉ φ := (w.ghs D (.head _)).2.1
  unfold mkL at e
  split at e
  · split at e
    · cases e
      have gg : ∀ {l : List V} {xs : List Value}, VRels (c.wg (D :: g)) h φ l xs → VRels (c.wg g) h (φ ++ [D]) l xs := fun r => VRels.ungh [D] (by simp) w.isL r
      refine ⟨[D], by simp, ⟨⟨fun a ha => ?_, w.stays, ?_, ?_, ?_, ?_⟩, ⟨st.l.ns, st.l.nk, st.l.above⟩⟩, ⟨D, rfl, by rw [← w.len]; simp⟩⟩
      · obtain ⟨h1, h2, h3⟩ := w.ghs a (.tail _ ha)
        refine ⟨h1, fun q => ?_, h3⟩
        rcases List.mem_append.mp q with q | q
        · exact h2 q
        · exact hD (List.mem_singleton.mp q ▸ ha)
      · intro b hb
        rcases List.mem_append.mp hb with hb | hb
        · exact w.fresh b hb
        · rw [List.mem_singleton.mp hb]; exact (w.ghs D (.head _)).1
      · exact List.nodup_append.mpr ⟨w.nodup, by simp, fun x hx y hy e => hφ (by rw [List.mem_singleton.mp hy] at e; exact e ▸ hx)⟩
      · simp [w.len]
      · intro m' l' q
        by_cases hm : m' < H.length
        · rw [List.getElem?_append_left hm] at q
          obtain ⟨b, ys, i, h1, h2, h3⟩ := w.cells m' l' q
          exact ⟨b, ys, i, by rw [List.getElem?_append_left (by rw [w.len]; exact hm)]; exact h1, h2, gg h3⟩
        · have hm' : m' = H.length := by
            have := (List.getElem?_eq_some_iff.mp q).1
            simp at this; omega
          subst hm'
          simp at q; subst q
          exact ⟨D, xs, n, by rw [← w.len]; simp, ha, gg rs⟩
    · cases e
      refine ⟨[], by simp, ?_⟩
      rw [List.append_nil]
      exact ⟨st.drop, D, xs, n, rfl, ha, hφ, hD, rs.drop1 st⟩
  · cases e
theorem mkL_new {mu : Bool} {l : List V} {r : V} {xs : List Value} {n : Nat} (e : mkL mu l H = some (r, H')) (st : St (c.wg g) φ H L m h) (k : KeepL L h h') (ns : h'.Ns L m) (hn : h.get? D = none) (ha : h'.get? D = some (lobj xs n))
    (rs : VRels (c.wg g) h φ l xs) : ∃ φ', Up L h φ h' φ' ∧ St (c.wg g) φ' H' L m h' ∧ VRel (c.wg g) h' φ' r (.ref D) := by
  have hD : D ∉ g := fun q => by
    obtain ⟨_, _, o, e, _⟩ := st.w.ghs D q
    rw [hn] at e; cases e
  obtain ⟨ψ, h1, h2, h3⟩ := mkL_gh e (st.newgh k ns hn ha (.inr ⟨_, _, rfl⟩)) hD ha (rs.togh st k hn)
  exact ⟨_, ⟨⟨ψ, rfl, fun a ha => h1 a ha ▸ hn⟩, fun a o e _ n => k a o e n⟩, h2, h3⟩
theorem mkL_push {mu : Bool} {l : List V} {r : V} {xs : List Value} {n : Nat} {s : Shared} {Q : Value → Shared → Prop} {tk : Nat} (e : mkL mu l H = some (r, H')) (st : St (c.wg g) φ H L m s.heap) (rs : VRels (c.wg g) s.heap φ l xs)
    (p : Post (c.wg g) φ L m s r H' Q) : Q (.ref s.heap.objs.size) (sht s (s.heap.push (lobj xs n)) tk) := by
  obtain ⟨φ', u, st', v⟩ := mkL_new e st (.of fun _ _ e => Heap.get?_push_of_some (lobj xs n) e) (st.push _).l.ns (get_none_of_le (Nat.le_refl _)) (Heap.get?_push_size _ rfl) rs
  exact p _ _ _ _ u st' v
theorem mkL_len {mu : Bool} {l : List V} {r : V} (e : mkL mu l H = some (r, H')) : l.length ≤ 2 ^ 16 := by
  unfold mkL at e
  split at e
  · assumption
  · cases e
end
end Mine

-- M12
set_option autoImplicit false
set_option maxRecDepth 100000
namespace Mine
open PySem PySem.W PyProof.Rows

section
variable {c : Cx} {prog : Program} {w : World} {kw : Nat → List Str} {N : List Str} {Φ : Fns} {k : Nat}

theorem MEs.plain {sc : Scope} {env : Env} {pos : Pos} : ∀ {es : List Expr} {ps : PEs}, MEs c kw N sc es ps → (backTo pos (starEach es env)).any (·.1) = false
  | [], _, _ => rfl
  | e :: es, .nil, m => by cases m
  | e :: es, .cons _ _, m => by
    obtain ⟨m1, m2⟩ := m
    rw [ME.star m1]
    show (false || (backTo pos (starEach es env)).any (·.1)) = false
    rw [MEs.plain m2]; rfl
theorem MEs.allPlain {sc : Scope} {env : Env} {pos : Pos} : ∀ {es : List Expr} {ps : PEs}, MEs c kw N sc es ps → (backTo pos (starEach es env)).all (!·.1) = true
  | [], _, _ => rfl
  | e :: es, .nil, m => by cases m
  | e :: es, .cons _ _, m => by
    obtain ⟨m1, m2⟩ := m
    rw [ME.star m1]
    show (true && (backTo pos (starEach es env)).all (!·.1)) = true
    rw [MEs.allPlain m2]; rfl

theorem keeper_builtin {M : Model} (id : String) (h : Heap) : ∃ k, (k = Keeper.frame ∨ k = Keeper.machine ∨ k = Keeper.boundFrame) ∧ Looks M h (keeperOf (.builtin id)) k := ⟨.machine, .inr (.inl rfl), Looks.of_pure rfl⟩
theorem keeper_type {M : Model} (id : String) (h : Heap) : ∃ k, (k = Keeper.frame ∨ k = Keeper.machine ∨ k = Keeper.boundFrame) ∧ Looks M h (keeperOf (.type id)) k := ⟨.machine, .inr (.inl rfl), Looks.of_pure rfl⟩
theorem keeper_f1 {M : Model} (f : B1) (h : Heap) : ∃ k, (k = Keeper.frame ∨ k = Keeper.machine ∨ k = Keeper.boundFrame) ∧ Looks M h (keeperOf (f1Of f)) k := by
  cases f <;> first | exact keeper_builtin _ _ | exact keeper_type _ _

theorem callWith_es {sc : Scope} {es : List Expr} {ps : PEs} {A : Around} {E : Value → Shared → Prop} {s : Shared} {env : Env} {pos : Pos} {f : Value} {first : List Value} {Q : Value → Shared → Prop} {P : Heap → Prop} (x : MEs c kw N sc es ps)
    (hk : ∀ h, P h → ∃ k, (k = Keeper.frame ∨ k = Keeper.machine ∨ k = Keeper.boundFrame) ∧ Looks (model prog w) h (keeperOf f) k)
    (h : wpAny (model prog w) A (spliced (backTo pos (starEach es env))) (fun vs s₁ => P s₁.heap ∧ wpAny (model prog w) A (call f (first ++ vs)) Q E s₁) E s) :
    wpAny (model prog w) A (callWith pos f first (backTo pos (starEach es env)) []) Q E s := by
  refine callWith_of (P := P) (by rw [x.plain]; rfl) hk ?_
  cases ps with
  | nil =>
    cases x
    unfold evalArgs
    show wpAny _ A (spliced [] >>= _) _ E s
    refine wpAny_bind (wpAny_mono h (fun vs s' h' => ?_) fun _ _ x => x)
    first
      | exact wpAny_holding (wpAny_bind (wpAny_pure (wpAny_bind (wpAny_pure (wpAny_pure h')))))
      | exact wpAny_bind (wpAny_pure (wpAny_holding (wpAny_bind (wpAny_pure (wpAny_bind (wpAny_pure (wpAny_pure h')))))))
  | cons p ps =>
    obtain ⟨m1, m2⟩ := x
    rw [ME.star m1] at h ⊢
    exact Calls.evalArgs_plain h

theorem arg1_ok {a : PE} (ha : EvOk c prog w kw N Φ k a) {sc : Scope} {e : Expr} (hm : ME c kw N sc e a) {g : List Addr} {env : Env} {A : Around} {E : Value → Shared → Prop} {s : Shared} {φ : List Addr} {H : Hp} {m : Str → Option Value} {ρ : En} {r : V} {H' : Hp} {Q : List Value → Shared → Prop} {pos : Pos}
    (so : ScOk env sc) (ao : AOk A k) (st : St (c.wg g) φ H env.locals m s.heap) (er : ERel (c.wg g) N s.heap φ env m ρ) (he : ev Φ a ρ H = some (r, H')) (p : Post (c.wg g) φ env.locals m s r H' fun v s₁ => Q [v] s₁) :
    wpAny (model prog w) A (spliced (backTo pos (starEach [e] env))) Q E s :=
  wpAny_items_cons (ha hm so ao st er he fun v h1 t1 φ1 u1 st1 r1 => wpAny_items_nil (p v h1 t1 φ1 u1 st1 r1)) (hm.star _ _)
theorem arg2_ok {a b : PE} (ha : EvOk c prog w kw N Φ k a) (hb : EvOk c prog w kw N Φ k b) {sc : Scope} {e e' : Expr} (hm : ME c kw N sc e a) (hm' : ME c kw N sc e' b) {g : List Addr} {env : Env} {A : Around} {E : Value → Shared → Prop} {s : Shared} {φ : List Addr} {H : Hp} {m : Str → Option Value} {ρ : En} {r r' : V} {H' H'' : Hp} {Q : List Value → Shared → Prop} {pos : Pos}
    (so : ScOk env sc) (ao : AOk A k) (st : St (c.wg g) φ H env.locals m s.heap) (er : ERel (c.wg g) N s.heap φ env m ρ) (he : ev Φ a ρ H = some (r, H')) (he' : ev Φ b ρ H' = some (r', H''))
    (p : ∀ x y h1 t1 φ1, Up env.locals s.heap φ h1 φ1 → St (c.wg g) φ1 H'' env.locals m h1 → VRel (c.wg g) h1 φ1 r x → VRel (c.wg g) h1 φ1 r' y → Q [x, y] (sht s h1 t1)) :
    wpAny (model prog w) A (spliced (backTo pos (starEach [e, e'] env))) Q E s :=
  wpAny_items_cons (ha hm so ao st er he fun v h1 t1 φ1 u1 st1 r1 => arg1_ok hb hm' so ao st1 (er.up st u1) he' fun v' h2 t2 φ2 u2 st2 r2 => p v v' h2 t2 φ2 (u1.trans st1.w st1.l u2) st2 (r1.up st1.w st1.l u2) r2) (hm.star _ _)

theorem evs_len : ∀ {ps : PEs} {ρ : En} {H H' : Hp} {vs : List V}, evs Φ ps ρ H = some (vs, H') → ∀ {sc : Scope} {es : List Expr}, MEs c kw N sc es ps → vs.length = es.length
  | .nil, ρ, H, H', vs, he, _, _, m => by cases m; rw [← (some2 he).1]; rfl
  | .cons _ ps, ρ, H, H', vs, he, _, _, m => by
    obtain ⟨m1, m2⟩ := m
    exact ob_elim he fun _ _ _ he => ob_elim he fun _ _ h2 he => by rw [← (some2 he).1]; exact congrArg Nat.succ (evs_len h2 m2)

theorem ev_tup {l : PEs} (hl : EvsOk c prog w kw N Φ k l) : EvOk c prog w kw N Φ k (.tup l) := by
  intro sc e hm g env A E s φ H m ρ r H' Q so ao st er he p
  cases hm with
  | tup m1 hsz =>
    refine ob_elim he fun vs H1 e1 he => ?_
    obtain ⟨rfl, rfl⟩ := some2 he
    refine wpAny_Tuple (hl m1 so ao st er e1 fun vals h1 t1 φ1 u1 st1 r1 => ⟨?_, ?_⟩)
    · rw [r1.length, evs_len e1 m1]
      exact Nat.le_trans (Nat.le_of_lt hsz) (by decide +kernel)
    · exact (p.after u1 st1).out st1 |>.push st1 (tk := t1) (VRel.newTup st1 r1)
theorem ev_lst {mu : Bool} {l : PEs} (hl : EvsOk c prog w kw N Φ k l) : EvOk c prog w kw N Φ k (.lst mu l) := by
  intro sc e hm g env A E s φ H m ρ r H' Q so ao st er he p
  cases hm with
  | lst m1 =>
    refine ob_elim he fun vs H1 e1 he => ?_
    refine wpAny_List (hl m1 so ao st er e1 fun vals h1 t1 φ1 u1 st1 r1 => ⟨?_, ?_⟩)
    · rw [r1.length]
      exact Nat.le_trans (mkL_len he) (by decide +kernel)
    · exact mkL_push (tk := t1) he st1 r1 (p.after (tk := t1) u1 st1)

theorem ev_idx {a i : PE} (ha : EvOk c prog w kw N Φ k a) (hi : EvOk c prog w kw N Φ k i) : EvOk c prog w kw N Φ k (.idx a i) := by
  intro sc e hm g env A E s φ H m ρ r H' Q so ao st er he p
  cases hm with
  | idx m1 m2 =>
    refine ob_elim he fun x H1 e1 he => ?_
    refine obI_elim he fun j H2 e2 he => ?_
    obtain ⟨z, hz, rfl, rfl⟩ := om_inv he
    refine Subscript_ (ha m1 so ao st er e1 fun v1 h1 t1 φ1 u1 st1 r1 => hi m2 so ao st1 (er.up st u1) e2 fun v2 h2 t2 φ2 u2 st2 r2 => ?_)
    obtain ⟨t, rfl⟩ := r2
    exact sub_tail (idx_ok hz st2 (r1.up st1.w st1.l u2) ((p.after (u1.trans st1.w st1.l u2) st2).out st2))

theorem part_ok {a : PE} (ha : EvOk c prog w kw N Φ k a) {sc : Scope} {e : Option Expr} (hm : MEo c kw N sc e a) {g : List Addr} {env : Env} {A : Around} {E : Value → Shared → Prop} {s : Shared} {φ : List Addr} {H : Hp} {m : Str → Option Value} {ρ : En} {r : V} {H' : Hp} {Q : Value → Shared → Prop}
    (so : ScOk env sc) (ao : AOk A k) (st : St (c.wg g) φ H env.locals m s.heap) (er : ERel (c.wg g) N s.heap φ env m ρ) (he : ev Φ a ρ H = some (r, H')) (p : Post (c.wg g) φ env.locals m s r H' Q) : wpAny (model prog w) A (evalPart e env) Q E s := by
  cases hm with
  | none hp =>
    subst hp
    obtain ⟨rfl, rfl⟩ := some2 he
    exact wpAny_pure (Out.post p st (val := .none) (tk := s.toks) rfl)
  | some m1 => exact ha m1 so ao st er he p
theorem ev_sl {a lo hi : PE} (ha : EvOk c prog w kw N Φ k a) (hl : EvOk c prog w kw N Φ k lo) (hh : EvOk c prog w kw N Φ k hi) : EvOk c prog w kw N Φ k (.sl a lo hi) := by
  intro sc e hm g env A E s φ H m ρ r H' Q so ao st er he p
  cases hm with
  | sl m1 m2 m3 =>
    refine ob_elim he fun x H1 e1 he => ?_
    refine ob_elim he fun y H2 e2 he => ?_
    refine ob_elim he fun q H3 e3 he => ?_
    obtain ⟨z, hz, rfl, rfl⟩ := om_inv he
    refine Subscript_ (ha m1 so ao st er e1 fun v1 h1 t1 φ1 u1 st1 r1 => wpAny_Slice (part_ok hl m2 so ao st1 (er.up st u1) e2 fun v2 h2 t2 φ2 u2 st2 r2 =>
      part_ok hh m3 so ao st2 ((er.up st u1).up st1 u2) e3 fun v3 h3 t3 φ3 u3 st3 r3 => wpAny_pure ?_))
    have r1' := (r1.up st1.w st1.l u2).up st2.w st2.l u3
    have r2' := r2.up st2.w st2.l u3
    have u := (u1.trans st1.w st1.l u2).trans st2.w st2.l u3
    have kk : KeepL env.locals h3 (h3.push { cls := .type "slice", data := .fields #[v2, v3, .none] }) := .of fun _ _ e => Heap.get?_push_of_some _ e
    have st4 := st3.push { cls := .type "slice", data := .fields #[v2, v3, .none] }
    exact sub_tail (sl_ok (s := { s with heap := h3.push { cls := .type "slice", data := .fields #[v2, v3, .none] }, toks := t3 }) hz st4 (r1'.keepL st3.w st3.l kk) (r2'.keepL st3.w st3.l kk) (r3.keepL st3.w st3.l kk) (Heap.get?_push_size _ rfl)
      ((p.after (tk := t3) (u.trans st3.w st3.l (.of_keepL kk)) st4).out st4))

theorem ev_rep {mu : Bool} {a b : PE} (ha : EvOk c prog w kw N Φ k a) (hb : EvOk c prog w kw N Φ k b) : EvOk c prog w kw N Φ k (.rep mu a b) := by
  intro sc e hm g env A E s φ H m ρ r H' Q so ao st er he p
  cases hm with
  | rep m1 m2 =>
    refine obL_elim he fun l H1 e1 he => obI_elim he fun n H2 e2 he => ?_
    obtain ⟨hc, he⟩ := ifsome he
    refine wpAny_BinOp (ha m1 so ao st er e1 fun v1 h1 t1 φ1 u1 st1 r1 => hb m2 so ao st1 (er.up st u1) e2 fun v2 h2 t2 φ2 u2 st2 r2 => ?_)
    obtain ⟨t, rfl⟩ := r2
    obtain ⟨a', xs, n', rfl, ga, _, _, rs⟩ := r1.up st1.w st1.l u2
    refine rep_ok ga hc.2.1 (by rw [rs.length]; exact hc.2.2) (by omega) ?_
    have : ∀ n : Nat, VRels (c.wg g) h2 φ2 (List.replicate n l).flatten (List.replicate n xs).flatten := by
      intro n
      induction n with
      | zero => exact rfl
      | succ n ih => simp only [List.replicate_succ, List.flatten_cons]; exact rs.append ih
    exact mkL_push (tk := t2) he st2 (this _) (p.after (tk := t2) (u1.trans st1.w st1.l u2) st2)

theorem Method_ {M : Model} {o : Expr} {name : Str} {ap pos : Pos} {l : List Expr} {kws : List Keyword} {env : Env} {A : Around} {E : Value → Shared → Prop} {s : Shared} {Q : Value → Shared → Prop} (hb : ∀ env w, attributeBase o name env w = w) (hp : (ap.endLine == pos.line) = true)
    (hf : methodCallForm (l.length + kws.length) (backTo pos (starEach l env)) (backToKw pos (keywordEach kws env)) = true)
    (h : wpAny M A (eval o env) (fun ov s₁ => ∀ pl, wpAny M A (getMethod ov name pl) (fun fx s₂ => wpAny M A (callWith pos fx.1 fx.2 (backTo pos (starEach l env)) (backToKw pos (keywordEach kws env))) Q E s₂) E s₁) E s) :
    wpAny M A (eval (.Call (.Attribute o name ap) l kws pos) env) Q E s := by
  rw [arm_eval_Call, hb]
  refine wpAny_bind (wpAny_mono h (fun ov s₁ h₁ => wpAny_bind (wpAny_standAt ?_)) fun _ _ x => x)
  unfold methodCall
  rw [hf]
  refine wpAny_bind (wpAny_holding (wpAny_mono (h₁ _) (fun fx s₂ h₂ => ?_) fun _ _ x => x))
  have e : methodCallPos true o env ap pos = pure pos := by unfold methodCallPos; rw [hp]; rfl
  dsimp only
  rw [e]
  exact wpAny_bind (wpAny_pure h₂)
theorem form_es {sc : Scope} {env : Env} {pos : Pos} {es : List Expr} {ps : PEs} (x : MEs c kw N sc es ps) (hl : es.length < 30) : methodCallForm (es.length + ([] : List Keyword).length) (backTo pos (starEach es env)) (backToKw pos (keywordEach [] env)) = true := by
  unfold methodCallForm
  rw [x.allPlain]
  show (true && true && decide (es.length + 0 + 0 < 30)) = true
  simp [hl]

theorem ev_b1 (G : GF c) {f : B1} {a : PE} (ha : EvOk c prog w kw N Φ k a) : EvOk c prog w kw N Φ k (.b1 f a) := by
  intro sc e hm g env A E s φ H m ρ r H' Q so ao st er he p
  refine ob_elim he fun x H1 e1 he => ?_
  obtain ⟨z, hz, rfl, rfl⟩ := om_inv he
  cases hm with
  | b1 hg hk hd h1 h2 m1 =>
    refine wpAny_Call_Name_kw (glob_ok G hg (so.glo _ hk) hd st er ?_)
    refine callWith_es (P := fun _ => True) (.cons m1 .nil) (fun h _ => keeper_f1 f h) (arg1_ok ha m1 so ao st er e1 fun v1 h1 t1 φ1 u1 st1 r1 => ⟨trivial, ?_⟩)
    exact b1_ok hz st1 r1 ao.hh ((p.after u1 st1).out st1)
  | low hb hpos hn m1 =>
    have key : ∀ {name : Str} {id : String} {pl : Sem Bool} {v1 : Value} {h1 : Heap} {t1 : Nat} {φ1 : List Addr}, Up env.locals s.heap φ h1 φ1 → St (c.wg g) φ1 H1 env.locals m h1 → VRel (c.wg g) h1 φ1 x v1 → f1Of f = .builtin id → Slot "str" name id → typeOf (.builtin id) = pure (.type "method_descriptor") →
        ∀ {pos : Pos}, wpAny (model prog w) A (getMethod v1 name pl) (fun fx s₂ => wpAny (model prog w) A (callWith pos fx.1 fx.2 (backTo pos (starEach [] env)) (backToKw pos (keywordEach [] env))) Q E s₂) E (sht s h1 t1) := by
      intro name id pl v1 h1 t1 φ1 u1 st1 r1 hf hs hty pos
      have hx : ∃ l, x = .str l := by
        rcases hn with ⟨_, rfl⟩ | ⟨_, rfl⟩
        · exact bd_elim hz fun l h _ => ⟨l, strV_some h⟩
        · exact nosome hz
      obtain ⟨l, rfl⟩ := hx
      obtain ⟨t, rfl⟩ := r1
      refine getMethod_builtin (T := "str") rfl F.plainAttrs_str hs hty (fun a e => by cases e) ?_
      refine callWith_es (c := c) (kw := kw) (N := N) (sc := sc) (P := fun _ => True) .nil (fun h _ => keeper_builtin id h) (wpAny_items_nil ⟨trivial, ?_⟩)
      rw [← hf]
      exact b1_ok (A := A) hz st1 ⟨t, rfl⟩ ao.hh ((p.after (tk := t1) u1 st1).out st1)
    refine Method_ hb hpos rfl (ha m1 so ao st er e1 fun v1 h1 t1 φ1 u1 st1 r1 pl => ?_)
    rcases hn with ⟨rfl, rfl⟩ | ⟨rfl, rfl⟩
    · exact key u1 st1 r1 rfl F.slot_str_lower F.type_str_lower
    · exact nosome hz

noncomputable def SearchOk (c : Cx) (prog : Program) (w : World) : Prop := ∀ {A : Around} {E : Value → Shared → Prop} {s : Shared} {k : Nat} {pl : Sem Bool} {Q : Value × List Value → Shared → Prop}, k < 2 →
  (∀ a o, c.h₀.get? a = some o → s.heap.get? a = some o) →
  (∀ f first, (∀ h, ∃ k, (k = Keeper.frame ∨ k = Keeper.machine ∨ k = Keeper.boundFrame) ∧ Looks (model prog w) h (keeperOf f) k) →
    (∀ {A : Around} {E : Value → Shared → Prop} {s' : Shared} {l : List Nat} {t : Tok} {Q' : Value → Shared → Prop}, (∀ a o, c.h₀.get? a = some o → s'.heap.get? a = some o) → clean l = true → l.length ≤ 64 → A.handled = none →
      (∀ h' tk, (∀ a o, s'.heap.get? a = some o → h'.get? a = some o) → Q' .none (sht s' h' tk)) → wpAny (model prog w) A (call f (first ++ [.str (toS l) t])) Q' E s') → Q (f, first) s) →
  wpAny (model prog w) A (getMethod (c.pv k) "search" pl) Q E s

theorem ev_b2 (G : GF c) (S : SearchOk c prog w) {f : B2} {a b : PE} (ha : EvOk c prog w kw N Φ k a) (hb : EvOk c prog w kw N Φ k b) : EvOk c prog w kw N Φ k (.b2 f a b) := by
  intro sc e hm g env A E s φ H m ρ r H' Q so ao st er he p
  refine ob_elim he fun x H1 e1 he => ?_
  refine ob_elim he fun y H2 e2 he => ?_
  obtain ⟨z, hz, rfl, rfl⟩ := om_inv he
  cases hm with
  | min hf hg hk hd m1 m2 =>
    subst hf
    refine wpAny_Call_Name_kw (glob_ok G hg (so.glo _ hk) hd st er ?_)
    refine callWith_es (P := fun _ => True) (.cons m1 (.cons m2 .nil)) (fun h _ => keeper_builtin _ h) (arg2_ok ha hb m1 m2 so ao st er e1 e2 fun v1 v2 h1 t1 φ1 u1 st1 r1 r2 => ⟨trivial, ?_⟩)
    exact b2_ok (f := .min) hz st1 r1 r2 ao.hh (by decide) ((p.after u1 st1).out st1)
  | meth hab hpos hn m1 m2 =>
    have key : ∀ {name : Str} {T id : String} {pl : Sem Bool} {v1 : Value} {h1 : Heap} {t1 : Nat} {φ1 : List Addr}, Up env.locals s.heap φ h1 φ1 → St (c.wg g) φ1 H1 env.locals m h1 → VRel (c.wg g) h1 φ1 x v1 → f2Of f = id → f ≠ .search → Slot T name id → PlainAttrs T →
        typeOf (.builtin id) = pure (.type "method_descriptor") → (∀ h : Shared, h.heap = h1 → h.TypeIs v1 T) → (∀ a, v1 = .ref a → ∃ o, h1.get? a = some o ∧ o.dict = none) →
        ∀ {pos : Pos} {e : Expr}, ME c kw N sc e b → wpAny (model prog w) A (getMethod v1 name pl) (fun fx s₂ => wpAny (model prog w) A (callWith pos fx.1 fx.2 (backTo pos (starEach [e] env)) (backToKw pos (keywordEach [] env))) Q E s₂) E (sht s h1 t1) := by
      intro name T id pl v1 h1 t1 φ1 u1 st1 r1 hf hns hs hpa hty hT hd pos e m2
      refine getMethod_builtin (T := T) (hT _ rfl) hpa hs hty hd ?_
      refine callWith_es (P := fun _ => True) (.cons m2 .nil) (fun h _ => keeper_builtin id h) (arg1_ok hb m2 so ao st1 (er.up st u1) e2 fun v2 h2 t2 φ2 u2 st2 r2 => ⟨trivial, ?_⟩)
      subst hf
      exact b2_ok hz st2 (r1.up st1.w st1.l u2) r2 ao.hh hns ((p.after (u1.trans st1.w st1.l u2) st2).out st2)
    refine Method_ hab hpos (form_es (.cons m2 .nil) (by simp)) (ha m1 so ao st er e1 fun v1 h1 t1 φ1 u1 st1 r1 pl => ?_)
    rcases hn with ⟨rfl, rfl⟩ | ⟨rfl, rfl⟩ | ⟨rfl, rfl⟩ | ⟨rfl, rfl⟩
    · obtain ⟨l, rfl⟩ : ∃ l, x = .str l := bd_elim hz fun l h _ => ⟨l, strV_some h⟩
      obtain ⟨t, rfl⟩ := r1
      exact key u1 st1 ⟨t, rfl⟩ rfl (by decide) F.slot_str_join F.plainAttrs_str F.type_str_join (fun _ _ => rfl) (fun a e => by cases e) m2
    · exact nosome hz
    · exact nosome hz
    · obtain ⟨kk, hx, hz⟩ := bindsome hz
      obtain ⟨l, hl, hz⟩ := bindsome hz
      obtain ⟨hc, hz⟩ := ifsome hz
      obtain rfl := someq hz
      obtain rfl := patV_some hx
      have r1 : v1 = c.pv kk := r1
      subst r1
      refine S hc.1 st1.w.stays fun f first hkp hcall => ?_
      refine callWith_es (P := fun _ => True) (.cons m2 .nil) (fun h _ => hkp h) (arg1_ok hb m2 so ao st1 (er.up st u1) e2 fun v2 h2 t2 φ2 u2 st2 r2 => ⟨trivial, ?_⟩)
      obtain ⟨t, rfl⟩ := strV_ok hl r2
      refine hcall st2.w.stays hc.2.1 hc.2.2 ao.hh fun h' tk hk => ?_
      exact (p.after (tk := t2) (u1.trans st1.w st1.l u2) st2).out st2 .none h' tk (.of hk) (st2.ext hk).l.ns rfl
end
end Mine

-- M13
set_option autoImplicit false
set_option maxRecDepth 100000
namespace Mine
open PySem PySem.W PyProof.Rows

section
variable {c : Cx} {prog : Program} {w : World} {kw : Nat → List Str} {N : List Str} {Φ : Fns} {k : Nat}

structure PhiOk (c : Cx) (prog : Program) (w : World) (kw : Nat → List Str) (Φ : Fns) (k : Nat) : Prop where
  ok : ∀ f, FnOk c prog w k f (kw f) (Φ f)
  me : ∀ f, f < 10 → ∀ x vs H r, Φ f (x :: vs) H = some r → ∃ v, x = .hdr v

theorem kin (G : GF c) {φ : List Addr} {H : Hp} {h : Heap} {g : List Addr} (w : Wd (c.wg g) φ H h) : c.K.In h := G.k.keeps w.stays

noncomputable def EachOk (c : Cx) (prog : Program) (w : World) (kw : Nat → List Str) (N : List Str) (Φ : Fns) (k : Nat) : PEs → Prop
  | .nil => True
  | .cons a l => EvOk c prog w kw N Φ k a ∧ EachOk c prog w kw N Φ k l
theorem EachOk.evs : ∀ {l : PEs}, EachOk c prog w kw N Φ k l → EvsOk c prog w kw N Φ k l
  | .nil, _ => evs_nil
  | .cons _ _, h => evs_cons h.1 (EachOk.evs h.2)
theorem EachOk.and : ∀ {l : PEs}, EachOk c prog w kw N Φ k l → AndOk c prog w kw N Φ k l
  | .nil, _ => and_nil
  | .cons _ _, h => and_cons h.1 (EachOk.and h.2)
theorem EachOk.or : ∀ {l : PEs}, EachOk c prog w kw N Φ k l → OrOk c prog w kw N Φ k l
  | .nil, _ => or_nil
  | .cons _ _, h => or_cons h.1 (EachOk.or h.2)
noncomputable def EachTr (c : Cx) (prog : Program) (w : World) (kw : Nat → List Str) (N : List Str) (Φ : Fns) (k : Nat) : PEs → Prop
  | .nil => True
  | .cons a l => TrOk c prog w kw N Φ k a ∧ EachTr c prog w kw N Φ k l
theorem EachTr.and : ∀ {l : PEs}, EachTr c prog w kw N Φ k l → AndT c prog w kw N Φ k l
  | .nil, _ => andT_nil
  | .cons _ _, h => andT_cons h.1 (EachTr.and h.2)
theorem EachTr.or : ∀ {l : PEs}, EachTr c prog w kw N Φ k l → OrT c prog w kw N Φ k l
  | .nil, _ => orT_nil
  | .cons _ _, h => orT_cons h.1 (EachTr.or h.2)

theorem St.fr {φ : List Addr} {H : Hp} {L : Addr} {m : Str → Option Value} {h : Heap} {g : List Addr} (st : St (c.wg g) φ H L m h) : Fr c.h₀ L h m := ⟨st.l.ns, st.w.stays, st.l.above⟩

theorem hdr_method (G : GF c) {name : Str} {f : Nat} (M : MethAt c name f) {g : List Addr} {A : Around} {E : Value → Shared → Prop} {s : Shared} {φ : List Addr} {H : Hp} {L : Addr} {m : Str → Option Value} {v : V} {x : Value} {pl : Sem Bool} {Q : Value × List Value → Shared → Prop}
    (st : St (c.wg g) φ H L m s.heap) (r : VRel (c.wg g) s.heap φ (.hdr v) x) (h : Q (c.fv f, [x]) s) : wpAny (model prog w) A (getMethod x name pl) Q E s := by
  obtain ⟨a, dx, hh, tk, n, y, rfl, h1, h2, h3⟩ := r
  obtain ⟨q, hq, hf, hfn⟩ := M.fi
  rw [hq] at h
  refine method_inst (K := c.K) (es := [⟨hh, .str hkey tk, y⟩]) (n := n) st.fr G.k ⟨h1, rfl, rfl, h2⟩ M.pg hf hfn ?_ h
  show getL name [⟨hh, .str hkey tk, y⟩] = some none
  have e : (Value.str hkey tk).isStr name = false := M.ne
  simp [getL, List.find?, e, DictEntry.refKey]

theorem ev_call (G : GF c) (P : PhiOk c prog w kw Φ k) {f : Nat} {l : PEs} (hl : EachOk c prog w kw N Φ k l) : EvOk c prog w kw N Φ k (.call f l) := by
  intro sc e hm g env A E s φ H m ρ r H' Q so ao st er he p
  refine ob_elim he fun vs H1 e1 he => ?_
  cases hm with
  | call hg hk hd hke hkw ms =>
    refine wpAny_Call_Name_kw (glob_ok G hg (so.glo _ hk) hd st er ?_)
    refine callWith_es (P := c.K.In) ms (fun h X => keeps_K hke h X) (hl.evs ms so ao st er e1 fun vals h1 t1 φ1 u1 st1 r1 => ⟨kin G st1.w, ?_⟩)
    have hf : FnOk c prog w k f [] (Φ f) := hkw ▸ P.ok f
    exact hf (ks := []) ao st1 (by rw [List.append_nil]; exact r1) rfl he (p.after u1 st1)
  | mcall hb hpos hlen hM hkw ms0 =>
    rename_i o name ap l' pos
    rcases l with _ | ⟨a, ps⟩
    · cases ms0
    obtain ⟨mo, ms⟩ := ms0
    refine ob_elim e1 fun x H2 e2 e1 => ?_
    refine ob_elim e1 fun ys H3 e3 e1 => ?_
    obtain ⟨rfl, rfl⟩ := some2 e1
    obtain ⟨v, rfl⟩ := P.me f hM.lt _ _ _ _ he
    have hf : FnOk c prog w k f [] (Φ f) := hkw ▸ P.ok f
    refine Method_ hb hpos (form_es ms hlen) (hl.1 mo so ao st er e2 fun v1 h1 t1 φ1 u1 st1 r1 pl => hdr_method G hM st1 r1 ?_)
    refine callWith_es (P := c.K.In) ms (fun h X => keeps_K hM.ke h X) (hl.2.evs ms so ao st1 (er.up st u1) e3 fun vals h2 t2 φ2 u2 st2 r2 => ⟨kin G st2.w, ?_⟩)
    exact hf (vs := v1 :: vals) (ks := []) ao st2 (by rw [List.append_nil]; exact .cons (r1.up st1.w st1.l u2) r2) rfl he (p.after (u1.trans st1.w st1.l u2) st2)
  | mcallK hb hpos hM hkw ms0 =>
    rename_i o name ap e' v' kn kp pos
    rcases l with _ | ⟨a, l1⟩
    · cases ms0
    obtain ⟨mo, ms1⟩ := ms0
    rcases l1 with _ | ⟨pe, l2⟩
    · cases ms1
    obtain ⟨me, ms2⟩ := ms1
    rcases l2 with _ | ⟨pv, l3⟩
    · cases ms2
    obtain ⟨mv, ms3⟩ := ms2
    rcases l3 with _ | ⟨px, l4⟩
    rotate_left
    · cases ms3
    refine ob_elim e1 fun x H2 e2 e1 => ?_
    refine ob_elim e1 fun ys H3 e3 e1 => ?_
    obtain ⟨rfl, rfl⟩ := some2 e1
    refine ob_elim e3 fun y H4 e4 e3 => ?_
    refine ob_elim e3 fun zs H5 e5 e3 => ?_
    obtain ⟨rfl, rfl⟩ := some2 e3
    refine ob_elim e5 fun z H6 e6 e5 => ob_elim e5 fun us H7 e7 e5 => ?_
    obtain ⟨rfl, rfl⟩ := some2 e7
    obtain ⟨rfl, rfl⟩ := some2 e5
    obtain ⟨v, rfl⟩ := P.me f hM.lt _ _ _ _ he
    have hf : FnOk c prog w k f [kn] (Φ f) := hkw ▸ P.ok f
    refine Method_ hb hpos (by unfold methodCallForm; rw [MEs.allPlain (.cons me .nil)]; rfl) (hl.1 mo so ao st er e2 fun v1 h1 t1 φ1 u1 st1 r1 pl => hdr_method G hM st1 r1 ?_)
    refine callWith_of (P := c.K.In) (by rw [MEs.plain (.cons me .nil)]; rfl) (fun h X => keeps_K hM.ke h X) (evalArgs_kw2 rfl ?_ (me.star _ _))
    refine arg1_ok hl.2.1 me so ao st1 (er.up st u1) e4 fun v2 h2 t2 φ2 u2 st2 r2 => kwAll_cons (hl.2.2.1 mv so ao st2 ((er.up st u1).up st1 u2) e6 fun v3 h3 t3 φ3 u3 st3 r3 => kwAll_nil ⟨kin G st3.w, ?_⟩)
    exact hf (vs := [v1, v2]) (ks := [v3]) ao st3 (.cons ((r1.up st1.w st1.l u2).up st2.w st2.l u3) (.cons (r2.up st2.w st2.l u3) (.cons r3 .nil))) rfl he (p.after ((u1.trans st1.w st1.l u2).trans st2.w st2.l u3) st3)

theorem ev_hdrs (G : GF c) {a : PE} (ha : EvOk c prog w kw N Φ k a) : EvOk c prog w kw N Φ k (.hdrs a) := by
  intro sc e hm g env A E s φ H m ρ r H' Q so ao st er he p
  cases hm with
  | hdrs hb hn mo =>
    rename_i o name pos
    subst hn
    refine obH_elim he fun v H1 e1 he => ?_
    obtain ⟨rfl, rfl⟩ := some2 he
    refine Attribute_any_ (ha mo so ao st er e1 fun v1 h1 t1 φ1 u1 st1 r1 => ?_) (by rw [arm_eval_Attribute, hb])
    obtain ⟨a, dx, hh, tk, n, y, rfl, g1, g2, g3⟩ := r1
    refine get_own (K := c.K) (es := [⟨hh, .str hkey tk, y⟩]) (n := n) st1.fr G.k ⟨g1, rfl, rfl, g2⟩ G.pg G.hd G.fi G.ng (v := y) ?_ ?_ (p _ _ _ _ u1 st1 g3)
    · have e : (Value.str hkey tk).isStr hkey = true := beq_self_eq_true hkey
      simp [getL, List.find?, e]
    · exact (g3.kind G).1

theorem isSame_type (a b : String) : isSame (.type a) (.type b) = pure (Value.type a == Value.type b) := by rfl

theorem ev_typeIs (G : GF c) {neg ls : Bool} {a : PE} (ha : EvOk c prog w kw N Φ k a) : EvOk c prog w kw N Φ k (.typeIs neg ls a) := by
  intro sc e hm g env A E s φ H m ρ r H' Q so ao st er he p
  cases hm with
  | typeIs m1 hg1 hk1 hg2 hk2 =>
    refine ob_elim he fun x H1 e1 he => ?_
    obtain ⟨z, hz, rfl, rfl⟩ := om_inv he
    refine wpAny_Compare1 (wpAny_Call_Name_kw (glob_ok G hg1 (so.glo _ hk1) (by decide) st er ?_)) (by cases neg <;> rfl)
    refine callWith_es (P := fun _ => True) (.cons m1 .nil) (fun h _ => keeper_type _ h) (arg1_ok ha m1 so ao st er e1 fun v1 h1 t1 φ1 u1 st1 r1 => ⟨trivial, ?_⟩)
    have er1 := er.up st u1
    have hT : ∃ T, Shared.TypeIs (sht s h1 t1) v1 T ∧ (Value.type T == Value.type "builtin_function_or_method") = false ∧ (Value.type T == Value.type (if ls then "list" else "str")) = z := by
      cases x with
      | str =>
        obtain rfl := someq hz
        obtain ⟨t, rfl⟩ := r1
        exact ⟨"str", rfl, by decide, by cases ls <;> decide⟩
      | lst =>
        obtain rfl := someq hz
        obtain ⟨a, xs, n, rfl, g1, _⟩ := r1
        exact ⟨"list", (isList_of g1).typeIs, by decide, by cases ls <;> decide⟩
      | cell =>
        obtain rfl := someq hz
        obtain ⟨a, rfl, g1⟩ := r1
        obtain ⟨xs, n, e⟩ := st1.w.isL a (List.mem_of_getElem? g1)
        exact ⟨"list", (isList_of e).typeIs, by decide, by cases ls <;> decide⟩
      | _ => exact nosome hz
    obtain ⟨T, hT, hnb, hq⟩ := hT
    refine call_type_of hT hnb (glob_ok G hg2 (so.glo _ hk2) (by cases ls <;> decide) st1 er1 ?_)
    have hfin := p (.bool (z != neg)) _ t1 _ u1 st1 rfl
    cases neg
    · show wpAny _ A (do return .bool (← isSame (.type T) (.type _))) Q E _
      rw [isSame_type, hq]
      exact wpAny_bind (wpAny_pure (wpAny_pure (by simpa using hfin)))
    · show wpAny _ A (do return .bool (!(← isSame (.type T) (.type _)))) Q E _
      rw [isSame_type, hq]
      exact wpAny_bind (wpAny_pure (wpAny_pure (by simpa using hfin)))
end
end Mine

-- M14
set_option autoImplicit false
set_option maxRecDepth 100000
namespace Mine
open PySem PySem.W PyProof.Rows

section
variable {c : Cx} {prog : Program} {w : World} {kw : Nat → List Str} {N : List Str} {Φ : Fns} {k : Nat}

theorem arg3_ok {a b d : PE} (ha : EvOk c prog w kw N Φ k a) (hb : EvOk c prog w kw N Φ k b) (hd : EvOk c prog w kw N Φ k d) {sc : Scope} {e e' e'' : Expr} (hm : ME c kw N sc e a) (hm' : ME c kw N sc e' b) (hm'' : ME c kw N sc e'' d) {g : List Addr} {env : Env} {A : Around} {E : Value → Shared → Prop} {s : Shared} {φ : List Addr} {H : Hp} {m : Str → Option Value} {ρ : En} {r r' r'' : V} {H' H'' H''' : Hp} {Q : List Value → Shared → Prop} {pos : Pos}
    (so : ScOk env sc) (ao : AOk A k) (st : St (c.wg g) φ H env.locals m s.heap) (er : ERel (c.wg g) N s.heap φ env m ρ) (he : ev Φ a ρ H = some (r, H')) (he' : ev Φ b ρ H' = some (r', H'')) (he'' : ev Φ d ρ H'' = some (r'', H'''))
    (p : ∀ x y z h1 t1 φ1, Up env.locals s.heap φ h1 φ1 → St (c.wg g) φ1 H''' env.locals m h1 → VRel (c.wg g) h1 φ1 r x → VRel (c.wg g) h1 φ1 r' y → VRel (c.wg g) h1 φ1 r'' z → Q [x, y, z] (sht s h1 t1)) :
    wpAny (model prog w) A (spliced (backTo pos (starEach [e, e', e''] env))) Q E s :=
  wpAny_items_cons (ha hm so ao st er he fun v h1 t1 φ1 u1 st1 r1 => arg2_ok hb hd hm' hm'' so ao st1 (er.up st u1) he' he'' fun v' v'' h2 t2 φ2 u2 st2 r2 r3 => p v v' v'' h2 t2 φ2 (u1.trans st1.w st1.l u2) st2 (r1.up st1.w st1.l u2) r2 r3) (hm.star _ _)

theorem range_size {x y z : Int} (hz : 0 < z) : Builtin.Range.rangeSize x y z = (((y - x + z - 1) / z).toNat : Int) := by
  unfold Builtin.Range.rangeSize
  rw [if_pos hz]
  split
  · rename_i h
    have e : y - x + z - 1 = (y - x - 1) + z * 1 := by omega
    rw [e, Int.add_mul_ediv_left _ _ (by omega)]
    have : 0 ≤ (y - x - 1) / z := Int.ediv_nonneg (by omega) (by omega)
    omega
  · rename_i h
    have : (y - x + z - 1) / z ≤ 0 := by
      have : (y - x + z - 1) / z < 1 := Int.ediv_lt_of_lt_mul hz (by omega)
      omega
    omega

theorem ev_lrange (G : GF c) {mu : Bool} {a b d : PE} (ha : EvOk c prog w kw N Φ k a) (hb : EvOk c prog w kw N Φ k b) (hd : EvOk c prog w kw N Φ k d) : EvOk c prog w kw N Φ k (.lrange mu a b d) := by
  intro sc e hm g env A E s φ H m ρ r H' Q so ao st er he p
  cases hm with
  | lrange hg1 hk1 hd1 hg2 hk2 hd2 m1 m2 m3 =>
    refine obI_elim he fun x H1 e1 he => obI_elim he fun y H2 e2 he => obI_elim he fun z H3 e3 he => ?_
    obtain ⟨hc, he⟩ := ifsome he
    obtain ⟨c1, c2, c3, c4, c6, c5⟩ := hc
    refine wpAny_Call_Name_kw (glob_ok G hg1 (so.glo _ hk1) hd1 st er ?_)
    refine callWith_type1 (wpAny_items_cons (wpAny_Call_Name_kw (glob_ok G hg2 (so.glo _ hk2) hd2 st er ?_)) rfl)
    refine callWith_es (P := fun _ => True) (.cons m1 (.cons m2 (.cons m3 .nil))) (fun h _ => keeper_type _ h) (arg3_ok ha hb hd m1 m2 m3 so ao st er e1 e2 e3 fun v1 v2 v3 h1 t1 φ1 u1 st1 r1 r2 r3 => ⟨trivial, ?_⟩)
    obtain ⟨t, rfl⟩ := r1
    obtain ⟨t', rfl⟩ := r2
    obtain ⟨t'', rfl⟩ := r3
    have hsz := range_size (x := x) (y := y) c1
    have hn : ((y - x + z - 1) / z).toNat ≤ 2 ^ 12 := by
      have h0 := mkL_len he
      simp only [List.length_map, List.length_range] at h0
      by_cases h : y - x + z - 1 ≤ 0
      · have : (y - x + z - 1) / z ≤ 0 := by
          have : (y - x + z - 1) / z < 1 := Int.ediv_lt_of_lt_mul c1 (by omega)
          omega
        omega
      · have : (y - x + z - 1) / z ≤ y - x + z - 1 := Int.ediv_le_self _ (by omega)
        omega
    refine call_range_3 (by omega) (wpAny_items_nil ?_) (.inl ?_)
    · have kk : KeepL env.locals h1 (h1.push { cls := .type "range", data := .fields #[.int x t, .int y t', .int z t''] }) := .of fun _ _ e => Heap.get?_push_of_some _ e
      have st2 := st1.push { cls := .type "range", data := .fields #[.int x t, .int y t', .int z t''] }
      refine call_list_range (n := ((y - x + z - 1) / z).toNat) ao.hh (Heap.get?_push_size _ rfl : IsRange _ _ x y z t t' t'') ?_ hsz (by omega) fun h' tk acc c' hk hS hacc => ?_
      · unfold Builtin.Range.small Builtin.Range.rangeFitsLong
        rw [hsz]
        simp only [gt_iff_lt, if_pos c1, Bool.and_eq_true, Bool.or_eq_true, decide_eq_true_eq, beq_iff_eq]
        omega
      · have hacc1 : acc.toList.length = ((y - x + z - 1) / z).toNat := by rw [Array.length_toList]; exact hacc.1
        have rs : VRels (c.wg g) (h1.push { cls := .type "range", data := .fields #[.int x t, .int y t', .int z t''] }) φ1 ((List.range ((y - x + z - 1) / z).toNat).map fun (i : Nat) => V.int (x + z * Int.ofNat i)) acc.toList := by
          refine VRels.of_get (by rw [hacc1]; simp) fun i v q e1 e2 => ?_
          rw [Array.getElem?_toList] at e2
          obtain ⟨t9, rfl⟩ := hacc.2 i q e2
          rw [List.getElem?_map] at e1
          obtain ⟨j, hj, rfl⟩ := Option.map_eq_some_iff.mp e1
          have hj' : j = i := by
            obtain ⟨hl, hj⟩ := List.getElem?_eq_some_iff.mp hj
            rw [List.getElem_range] at hj
            exact hj.symm
          subst hj'
          exact ⟨t9, by rw [Int.mul_comm]; rfl⟩
        obtain ⟨φ', u, st', v⟩ := mkL_new he st2 (.of hk) (st2.ext hk).l.ns (get_none_of_le (Nat.le_refl _)) (xs := acc.toList) (n := c') hS rs
        exact p _ _ _ _ (u1.trans st1.w st1.l ((Up.of_keepL kk).trans st2.w st2.l u)) st' v
    · exact PyProof.noPylong_small (by omega)
end
end Mine

-- M15
set_option autoImplicit false
set_option maxRecDepth 100000
namespace Mine
open PySem PySem.W PyProof.Rows

section
variable {c : Cx} {g g' : List Addr} {φ : List Addr} {h h' : Heap} {H H' : Hp} {L : Addr} {m : Str → Option Value} {wr : List Addr}

mutual
theorem VRel.sub (hs : ∀ a ∈ g, a ∈ g') : ∀ {v : V} {x : Value}, VRel (c.wg g') h φ v x → VRel (c.wg g) h φ v x
  | .none, _, r => r
  | .bool _, _, r => r
  | .int _, _, r => r
  | .str _, _, r => r
  | .tup l, x, r => by
    obtain ⟨a, xs, n, rfl, h0, h1, hs'⟩ := r
    exact ⟨a, xs, n, rfl, h0, fun q => h1 (hs a q), VRels.sub hs hs'⟩
  | .lst l, x, r => by
    obtain ⟨a, xs, n, rfl, h0, hn, h1, hs'⟩ := r
    exact ⟨a, xs, n, rfl, h0, hn, fun q => h1 (hs a q), VRels.sub hs hs'⟩
  | .rng n, x, r => r
  | .cell n, x, r => r
  | .hdr v, x, r => by
    obtain ⟨a, dx, hh, tk, n, y, rfl, h1, h2, h3⟩ := r
    exact ⟨a, dx, hh, tk, n, y, rfl, h1, h2, VRel.sub hs h3⟩
  | .pat _, _, r => r
theorem VRels.sub (hs : ∀ a ∈ g, a ∈ g') : ∀ {l : List V} {xs : List Value}, VRels (c.wg g') h φ l xs → VRels (c.wg g) h φ l xs
  | [], _, r => r
  | v :: l, xs, r => by
    obtain ⟨y, t, rfl, h1, h2⟩ := r
    exact ⟨y, t, rfl, VRel.sub hs h1, VRels.sub hs h2⟩
end

noncomputable def KeepW (wr : List Addr) (h h' : Heap) : Prop := ∀ a o, a ∉ wr → h.get? a = some o → h'.get? a = some o
noncomputable def Sd (c : Cx) (L : Addr) (wr : List Addr) (φ : List Addr) (h : Heap) : Prop :=
  ∀ a ∈ wr, c.h₀.get? a = none ∧ a ∉ φ ∧ a ≠ L ∧ ∃ o, h.get? a = some o ∧ (a ∈ c.gh → isSeq o) ∧ (a ∉ c.gh → (∃ fs, o.data = .fields fs) ∧ o.cls ≠ .type "range")

theorem Sd.keepD (sd : Sd c L wr φ h) (k : KeepW wr h h') : ∀ a o, h.get? a = some o → a ∉ φ → a ∉ c.gh → Dur o → h'.get? a = some o := fun a o e _ hg hd => by
  by_cases ha : a ∈ wr
  · obtain ⟨_, _, _, o', e', _, h2⟩ := sd a ha
    rw [e] at e'; cases e'
    obtain ⟨⟨fs, q⟩, q2⟩ := h2 hg
    unfold Dur at hd
    rw [q] at hd
    exact absurd hd q2
  · exact k a o ha e
theorem VRel.side (st : St c φ H L m h) (sd : Sd c L wr φ h) (k : KeepW wr h h') {v : V} {x : Value} (r : VRel c h φ v x) : VRel c h' φ v x :=
  r.mono (sd.keepD k) st.w.isL st.w.gh ⟨[], by simp, by simp⟩
theorem VRels.side (st : St c φ H L m h) (sd : Sd c L wr φ h) (k : KeepW wr h h') {v : List V} {x : List Value} (r : VRels c h φ v x) : VRels c h' φ v x :=
  r.mono (sd.keepD k) st.w.isL st.w.gh ⟨[], by simp, by simp⟩
theorem St.side (st : St c φ H L m h) (sd : Sd c L wr φ h) (sd' : Sd c L wr φ h') (k : KeepW wr h h') : St c φ H L m h' := by
  have w := st.w
  refine ⟨⟨fun a ha => ?_, fun a o e => k a o (fun q => by rw [(sd a q).1] at e; cases e) (w.stays a o e), w.fresh, w.nodup, w.len, fun n l e => ?_⟩, st.l.ns.at' fun o e => k L o (fun q => (sd L q).2.2.1 rfl) e, st.l.nk, st.l.above⟩
  · obtain ⟨h1, h2, o, e, q⟩ := w.ghs a ha
    by_cases hw : a ∈ wr
    · obtain ⟨_, _, _, o', e', h3, _⟩ := sd' a hw
      exact ⟨h1, h2, o', e', h3 ha⟩
    · exact ⟨h1, h2, o, k a o hw e, q⟩
  · obtain ⟨a, xs, n, h1, h2, h3⟩ := w.cells n l e
    exact ⟨a, xs, n, h1, k a _ (fun q => (sd a q).2.1 (List.mem_of_getElem? h1)) h2, h3.side st sd k⟩
theorem ERel.side {N : List Str} {env : Env} {ρ : En} (x : ERel c N h φ env m ρ) (st : St c φ H env.locals m h) (sd : Sd c env.locals wr φ h) (k : KeepW wr h h') : ERel c N h' φ env m ρ := by
  have cellK : ∀ {a : Addr} {y : Option Value}, h.IsCell a y → h'.IsCell a y := fun {a y} hc => by
    obtain ⟨o, e, d⟩ := hc
    refine ⟨o, k a o (fun q => ?_) e, d⟩
    obtain ⟨_, _, _, o', e', h1, h2⟩ := sd a q
    rw [e] at e'; cases e'
    by_cases hg : a ∈ c.gh
    · rcases h1 hg with ⟨_, _, q⟩ | ⟨_, _, q⟩ <;> (rw [q] at d; cases d)
    · obtain ⟨⟨fs, q⟩, _⟩ := h2 hg
      rw [d] at q; cases q
  refine ⟨x.nd, x.fn, x.gl, x.bi, fun i v id e n q => ?_, fun i v id e n q => ?_, fun i q => ?_, x.dis⟩
  · obtain ⟨y, h1, h2⟩ := x.loc i v id e n q
    exact ⟨y, h1, h2.side st sd k⟩
  · obtain ⟨a, y, h1, h2, h3⟩ := x.cel i v id e n q
    exact ⟨a, y, h1, cellK h2, h3.side st sd k⟩
  · obtain ⟨a, y, h1, h2⟩ := x.has i q
    exact ⟨a, y, h1, cellK h2⟩
theorem Up.side {hb : Heap} {φb : List Addr} (u : Up L hb φb h φ) (k : KeepW wr h h') (hd : ∀ a ∈ wr, hb.get? a = none) : Up L hb φb h' φ :=
  ⟨u.ext, fun a o e n nl => k a o (fun q => by rw [hd a q] at e; cases e) (u.keep a o e n nl)⟩

theorem St.over (st : St (c.wg g') φ H L m h) (sd : Sd (c.wg g') L wr φ h) (k : KeepW wr h h') (hs : ∀ a ∈ g, a ∈ g') (hw : ∀ a ∈ wr, a ∉ g) : St (c.wg g) φ H L m h' := by
  have w := st.w
  refine ⟨⟨fun a ha => ?_, fun a o e => k a o (fun q => by have := (sd a q).1; dsimp only at this e; rw [this] at e; cases e) (w.stays a o e), w.fresh, w.nodup, w.len, fun n l e => ?_⟩, st.l.ns.at' fun o e => k L o (fun q => (sd L q).2.2.1 rfl) e, st.l.nk, st.l.above⟩
  · obtain ⟨h1, h2, o, e, q⟩ := w.ghs a (hs a ha)
    exact ⟨h1, h2, o, k a o (fun q => hw a q ha) e, q⟩
  · obtain ⟨a, xs, n, h1, h2, h3⟩ := w.cells n l e
    exact ⟨a, xs, n, h1, k a _ (fun q => (sd a q).2.1 (List.mem_of_getElem? h1)) h2, (h3.side st sd k).sub hs⟩
theorem VRels.over (st : St (c.wg g') φ H L m h) (sd : Sd (c.wg g') L wr φ h) (k : KeepW wr h h') (hs : ∀ a ∈ g, a ∈ g') {v : List V} {x : List Value} (r : VRels (c.wg g') h φ v x) : VRels (c.wg g) h' φ v x := (r.side st sd k).sub hs
theorem ERel.sub {N : List Str} {env : Env} {ρ : En} (hs : ∀ a ∈ g, a ∈ g') (x : ERel (c.wg g') N h φ env m ρ) : ERel (c.wg g) N h φ env m ρ :=
  ⟨x.nd, x.fn, x.gl, x.bi, fun i v id e n q => let ⟨y, h1, h2⟩ := x.loc i v id e n q; ⟨y, h1, h2.sub hs⟩, fun i v id e n q => let ⟨a, y, h1, h2, h3⟩ := x.cel i v id e n q; ⟨a, y, h1, h2, h3.sub hs⟩, x.has, x.dis⟩

structure Turns (c : Cx) (prog : Program) (w : World) (A : Around) (target : Expr) (I L : Addr) (wr : List Addr) (items : List V) (X : V) (Hx : Hp) (S : Nat → List Addr → Heap → Prop) (Md : Nat → Value → List Addr → Heap → Prop) : Prop where
  sdS : ∀ {i φ h}, S i φ h → Sd c L wr φ h
  sdM : ∀ {i x φ h}, Md i x φ h → Sd c L wr φ h
  frame : ∀ {i φ h φ' h' H H' m m' gx}, S i φ h → St c φ H L m h → (∀ a ∈ gx, a ∈ c.gh ∧ a ∉ wr) → UpC gx L h φ h' φ' → St c φ' H' L m' h' → stableV X Hx H' = true → S i φ' h'
  item : ∀ {i v φ H m} {s : Shared} {Q : Option Value → Shared → Prop} {E : Value → Shared → Prop}, items[i]? = some v → S i φ s.heap → St c φ H L m s.heap →
    (∀ x h' tk, Md i x φ h' → KeepW wr s.heap h' → Q (some x) (sht s h' tk)) → wpAny (model prog w) A (pyNext (.ref I)) Q E s
  go : ∀ {i x v φ H m} {s : Shared} {Q : Unit → Shared → Prop} {E : Value → Shared → Prop}, items[i]? = some v → Md i x φ s.heap → St c φ H L m s.heap →
    (∀ h', S (i + 1) φ h' → VRel c h' φ v x → KeepW wr s.heap h' → Q () { s with heap := h' }) → wpAny (model prog w) A (letOwnedTupleGo target (.ref I) x) Q E s
  done : ∀ {φ H m} {s : Shared} {Q : Option Value → Shared → Prop} {E : Value → Shared → Prop}, S items.length φ s.heap → St c φ H L m s.heap →
    (∀ h' tk, KeepW wr s.heap h' → Q none (sht s h' tk)) → wpAny (model prog w) A (pyNext (.ref I)) Q E s
  self : ∀ {i φ} {s : Shared} {Q : Value → Shared → Prop} {E : Value → Shared → Prop}, S i φ s.heap → Q (.ref I) s → wpAny (model prog w) A (pyIter (.ref I)) Q E s
end

noncomputable abbrev owned : List String := ["enumerate", "zip", "dict_itemiterator", "dict_reverseitemiterator", "odict_iterator", "itertools.zip_longest", "itertools.pairwise"]
section
variable {M : Model} {A : Around} {E : Value → Shared → Prop} {s : Shared}
theorem go_ok {target : Expr} {I : Addr} {x : Value} {o : Obj} {T : String} {Q : Unit → Shared → Prop} (hI : s.heap.get? I = some o) (hc : o.cls = .type T) (hT : owned.contains T = false) (h : Q () s) : wpAny M A (letOwnedTupleGo target (.ref I) x) Q E s := by
  have key : wpAny M A (do
      let (.ref r, .ref a) := (Value.ref I, x) | return
      let o ← load r
      match o.cls, o.data with
      | .type n, .fields vs =>
        if ["enumerate", "zip", "dict_itemiterator", "dict_reverseitemiterator", "odict_iterator", "itertools.zip_longest", "itertools.pairwise"].contains n && vs[0]? == some (rawInt a) then
          rule "for.unpacks-the-owned-tuple"
          updateField r 0 .none
      | _, _ => pure () : Sem Unit) Q E s := by
    cases x with
    | ref a =>
      refine wpAny_bind (wpAny_load hI ?_)
      rw [hc]
      cases hd : o.data with
      | fields vs =>
        dsimp only
        have : (["enumerate", "zip", "dict_itemiterator", "dict_reverseitemiterator", "odict_iterator", "itertools.zip_longest", "itertools.pairwise"].contains T && vs[0]? == some (rawInt a)) = false := by
          rw [show ["enumerate", "zip", "dict_itemiterator", "dict_reverseitemiterator", "odict_iterator", "itertools.zip_longest", "itertools.pairwise"].contains T = false from hT]; rfl
        rw [this]
        exact wpAny_pure h
      | _ => exact wpAny_pure h
    | _ => exact wpAny_pure h
  cases target with
  | Tuple elts k pos => exact key
  | List elts pos => exact key
  | _ => exact wpAny_pure h
end
end Mine

-- M16
set_option autoImplicit false
set_option maxRecDepth 100000
namespace Mine
open PySem PySem.W PyProof.Rows

section
variable {c : Cx} {prog : Program} {w : World} {A : Around} {target : Expr} {I L : Addr} {items : List V} {X : V} {Hx : Hp}

theorem Sd.nocell {φ : List Addr} {h : Heap} {wr : List Addr} (sd : Sd c L wr φ h) {a : Addr} (ha : a ∈ wr) {o : Obj} (e : h.get? a = some o) : ¬ isCellO o := by
  obtain ⟨_, _, _, o', e', q1, q2⟩ := sd a ha
  rw [e] at e'; cases e'
  by_cases hg : a ∈ c.gh
  · exact (q1 hg).notCell
  · rintro ⟨v, q⟩
    obtain ⟨⟨fs, q'⟩, _⟩ := q2 hg
    rw [q] at q'; cases q'
theorem Sd.up {φ φ' : List Addr} {h h' : Heap} {wr gx : List Addr} (sd : Sd c L wr φ h) (hg : ∀ a ∈ gx, a ∉ wr) (u : UpC gx L h φ h' φ') : Sd c L wr φ' h' := by
  intro a ha
  obtain ⟨h1, h2, h3, o, e, q⟩ := sd a ha
  obtain ⟨ψ, rfl, hψ⟩ := u.ext
  refine ⟨h1, fun hm => ?_, h3, o, u.keep a o e h2 h3 (sd.nocell ha e) fun q => hg a q ha, q⟩
  rcases List.mem_append.mp hm with hm | hm
  · exact h2 hm
  · rw [hψ a hm] at e; cases e

theorem Sd.one {φ : List Addr} {h : Heap} {a : Addr} {o : Obj} {fs : Array Value} {T : String} (h1 : c.h₀.get? a = none) (h2 : a ∉ φ) (h3 : a ≠ L) (h4 : a ∉ c.gh) (e : h.get? a = some o) (hd : o.data = .fields fs) (hc : o.cls = .type T) (hT : T ≠ "range") : Sd c L [a] φ h := by
  intro b hb
  rw [List.mem_singleton] at hb; subst hb
  exact ⟨h1, h2, h3, o, e, fun q => absurd q h4, fun _ => ⟨⟨fs, hd⟩, fun q => hT (by rw [hc] at q; exact Value.type.inj q)⟩⟩

theorem turns_walks {fp : List Addr} {P : Nat → Value → Prop} {Sw : Nat → Heap → Prop} {its : List V} {xs : List Value} {T : String} (W : Walks prog w A I fp [I] items.length P Sw) (hT : owned.contains T = false) (hT' : T ≠ "range")
    (hI : ∀ i h, Sw i h → ∃ o fs, h.get? I = some o ∧ o.cls = .type T ∧ o.data = .fields fs) (h1 : c.h₀.get? I = none) (h3 : I ≠ L) (h4 : I ∉ c.gh)
    (hP : ∀ {i v x φ h}, items[i]? = some v → P i x → VRels c h φ its xs → VRel c h φ v x) :
    Turns c prog w A target I L [I] items X Hx (fun i φ h => Sw i h ∧ I ∉ φ ∧ (∀ b ∈ fp, b ∉ φ ∧ b ≠ L ∧ b ∉ c.gh ∧ ∃ o, h.get? b = some o ∧ ¬ isCellO o) ∧ VRels c h φ its xs)
      (fun i x φ h => P i x ∧ Sw (i + 1) h ∧ I ∉ φ ∧ (∀ b ∈ fp, b ∉ φ ∧ b ≠ L ∧ b ∉ c.gh ∧ ∃ o, h.get? b = some o ∧ ¬ isCellO o) ∧ VRels c h φ its xs) := by
  have sd : ∀ {i φ h}, Sw i h → I ∉ φ → Sd c L [I] φ h := fun {i φ h} a b => by
    obtain ⟨o, fs, e, hc, hd⟩ := hI _ _ a
    exact Sd.one h1 b h3 h4 e hd hc hT'
  refine ⟨fun q => sd q.1 q.2.1, fun q => sd q.2.1 q.2.2.1, fun {i φ h φ' h' H H' m m' gx} q st hgx u st' _ => ?_, fun {i v φ H m s Q E} hv q st hQ => ?_, fun {i x v φ H m s Q E} hv q st hQ => ?_, fun {φ H m s Q E} q st hQ => ?_, fun {i φ s Q E} q hQ => ?_⟩
  · obtain ⟨a, b, d, e⟩ := q
    obtain ⟨ψ, rfl, hψ⟩ := id u.ext
    have nin : ∀ {b : Addr} {o : Obj}, b ∉ φ → h.get? b = some o → b ∉ φ ++ ψ := fun hb e hm => by
      rcases List.mem_append.mp hm with hm | hm
      · exact hb hm
      · rw [hψ _ hm] at e; cases e
    obtain ⟨o, _, eI, _⟩ := hI _ _ a
    refine ⟨W.frame i h h' a fun b hb o e => u.keep b o e (d b hb).1 (d b hb).2.1 (by obtain ⟨_, _, _, o', e', q⟩ := d b hb; rw [e] at e'; cases e'; exact q) (fun q => (d b hb).2.2.1 (hgx b q).1), nin b eI, fun b hb => ?_, e.upC st.w st.l (fun a q => (hgx a q).1) u⟩
    obtain ⟨d1, d2, d5, o, d3, d4⟩ := d b hb
    exact ⟨nin d1 d3, d2, d5, o, u.keep b o d3 d1 d2 d4 (fun q => d5 (hgx b q).1), d4⟩
  · obtain ⟨a, b, d, e⟩ := q
    refine W.item i s Q E (List.getElem?_eq_some_iff.mp hv).1 a fun x h' tk hp st' hk => hQ x h' tk ⟨hp, st', b, fun b' hb => ?_, VRels.side st (sd a b) hk e⟩ hk
    obtain ⟨d1, d2, d5, o, d3, d4⟩ := d b' hb
    by_cases q : b' = I
    · obtain ⟨o', fs, e', _, e''⟩ := hI _ _ st'
      exact ⟨d1, d2, d5, o', q ▸ e', fun ⟨v, q⟩ => by rw [e''] at q; cases q⟩
    · exact ⟨d1, d2, d5, o, hk b' o (by simpa using q) d3, d4⟩
  · obtain ⟨hp, a, b, d, e⟩ := q
    obtain ⟨o, _, e', hc, _⟩ := hI _ _ a
    exact go_ok e' hc hT (hQ s.heap ⟨a, b, d, e⟩ (hP hv hp e) fun _ _ _ e => e)
  · obtain ⟨a, b, d, e⟩ := q
    exact W.done s Q E a fun h' tk hk => hQ h' tk hk
  · exact W.self i s Q E q.1 hQ

theorem turns_list (hh : A.handled = none) {ax : Addr} (hX : listV Hx X = some items) (h1 : c.h₀.get? I = none) (h3 : I ≠ L) (h4 : I ∉ c.gh) (hne : ax ≠ I) :
    Turns c prog w A target I L [I] items X Hx (fun i φ h => h.IsListIter I ax i ∧ I ∉ φ ∧ VRel c h φ X (.ref ax) ∧ ∃ xs n, h.get? ax = some (lobj xs n) ∧ VRels c h φ items xs)
      (fun i x φ h => h.IsListIter I ax (i + 1) ∧ I ∉ φ ∧ VRel c h φ X (.ref ax) ∧ (∃ xs n, h.get? ax = some (lobj xs n) ∧ VRels c h φ items xs) ∧ ∃ v, items[i]? = some v ∧ VRel c h φ v x) := by
  have sd : ∀ {i : Nat} {φ : List Addr} {h : Heap}, h.IsListIter I ax i → I ∉ φ → Sd c L [I] φ h := fun {i φ h} a b => by
    obtain ⟨o, e, hc, hd⟩ := a
    exact Sd.one h1 b h3 h4 e hd hc (by decide)
  refine ⟨fun q => sd q.1 q.2.1, fun q => sd q.1 q.2.1, fun {i φ h φ' h' H H' m m' gx} q st hgx u st' hs => ?_, fun {i v φ H m s Q E} hv q st hQ => ?_, fun {i x v φ H m s Q E} hv q st hQ => ?_, fun {φ H m s Q E} q st hQ => ?_, fun {i φ s Q E} q hQ => ?_⟩
  · obtain ⟨a, b, d, e⟩ := q
    have sdu := (sd a b).up (fun a q => (hgx a q).2) u
    obtain ⟨_, hn, _⟩ := sdu I (List.mem_singleton.mpr rfl)
    have d' := d.upC st.w st.l (fun a q => (hgx a q).1) u
    have hX' : listV H' X = some items := by
      cases X with
      | lst l => exact hX
      | cell n =>
        have hs : stC Hx[n]? H'[n]? = true := hs
        have hX : Hx[n]? = some items := hX
        show H'[n]? = some items
        rw [hX] at hs
        cases e : H'[n]? with
        | none => rw [e] at hs; exact (Bool.false_ne_true hs).elim
        | some l => rw [e] at hs; exact congrArg some (V.beqs_eq hs).symm
      | _ => exact nosome hX
    obtain ⟨a', xs, n, e1, e2, e3⟩ := listV_ok st'.w hX' d'
    cases e1
    exact ⟨a.at fun o e => u.keep I o e b h3 ((sd a b).nocell (List.mem_singleton.mpr rfl) e) (fun q => (hgx I q).2 (List.mem_singleton.mpr rfl)), hn, d', xs, n, e2, e3⟩
  · obtain ⟨a, b, d, xs, n, e1, e2⟩ := q
    obtain ⟨x, hx, hr⟩ := e2.get hv
    refine wpAny_pyNext_list_item a (isList_of e1) (x := x) (by simpa using hx) fun h' hit hs => ?_
    have hk : KeepW [I] s.heap h' := fun b o hb e => (hs.2 b (by simpa using hb)).trans e
    exact hQ x h' s.toks ⟨hit, b, d.side st (sd a b) hk, ⟨xs, n, hk _ _ (by simpa using hne) e1, e2.side st (sd a b) hk⟩, v, hv, hr.side st (sd a b) hk⟩ hk
  · obtain ⟨a, b, d, e, v', hv', hr⟩ := q
    rw [hv] at hv'; cases hv'
    obtain ⟨o, e', hc, _⟩ := id a
    exact go_ok e' hc (by decide) (hQ s.heap ⟨a, b, d, e⟩ hr fun _ _ _ e => e)
  · obtain ⟨a, b, d, xs, n, e1, e2⟩ := q
    refine wpAny_pyNext_list_end hh a (isList_of e1) (by rw [← e2.length]; simp) fun h' hk => hQ h' s.toks fun b o hb e => hk b o (by simpa using hb) e
  · exact wpAny_pyIter_listiter q.1 hQ
end


noncomputable def KeepA (h h' : Heap) : Prop := ∀ a o, h.get? a = some o → h'.get? a = some o
section
variable {c : Cx} {g : List Addr} {φ : List Addr} {h h' : Heap} {H : Hp} {L L' : Addr} {m m' : Str → Option Value}
mutual
theorem VRel.regh (hg : ∀ a ∈ g, a ∈ c.gh ∨ h.get? a = none) : ∀ {v : V} {x : Value}, VRel c h φ v x → VRel (c.wg g) h φ v x
  | .none, _, r => r
  | .bool _, _, r => r
  | .int _, _, r => r
  | .str _, _, r => r
  | .tup l, x, r => by
    obtain ⟨a, xs, n, rfl, h0, h1, hs⟩ := r
    refine ⟨a, xs, n, rfl, h0, fun q => ?_, VRels.regh hg hs⟩
    rcases hg a q with q | q
    · exact h1 q
    · rw [q] at h0; cases h0
  | .lst l, x, r => by
    obtain ⟨a, xs, n, rfl, h0, h2, h1, hs⟩ := r
    refine ⟨a, xs, n, rfl, h0, h2, fun q => ?_, VRels.regh hg hs⟩
    rcases hg a q with q | q
    · exact h1 q
    · rw [q] at h0; cases h0
  | .rng n, x, r => r
  | .cell n, x, r => r
  | .hdr v, x, r => by
    obtain ⟨a, dx, hh, tk, n, y, rfl, h1, h2, h3⟩ := r
    exact ⟨a, dx, hh, tk, n, y, rfl, h1, h2, VRel.regh hg h3⟩
  | .pat _, _, r => r
theorem VRels.regh (hg : ∀ a ∈ g, a ∈ c.gh ∨ h.get? a = none) : ∀ {l : List V} {xs : List Value}, VRels c h φ l xs → VRels (c.wg g) h φ l xs
  | [], _, r => r
  | v :: l, xs, r => by
    obtain ⟨y, t, rfl, h1, h2⟩ := r
    exact ⟨y, t, rfl, VRel.regh hg h1, VRels.regh hg h2⟩
end
theorem St.ghseq (st : St c φ H L m h) (hg : ∀ a ∈ g, a ∈ c.gh ∨ h.get? a = none) : ∀ a ∈ g, ∀ o, h.get? a = some o → isSeq o := fun a ha o e => by
  rcases hg a ha with q | q
  · exact st.w.gh a q o e
  · rw [q] at e; cases e
theorem VRel.grow (st : St c φ H L m h) (k : KeepA h h') (hg : ∀ a ∈ g, a ∈ c.gh ∨ h.get? a = none) {v : V} {x : Value} (r : VRel c h φ v x) : VRel (c.wg g) h' φ v x :=
  VRel.mono (c := (c.wg g)) (fun a o e _ _ _ => k a o e) st.w.isL (st.ghseq hg) ⟨[], by simp, by simp⟩ (r.regh hg)
theorem VRels.grow (st : St c φ H L m h) (k : KeepA h h') (hg : ∀ a ∈ g, a ∈ c.gh ∨ h.get? a = none) {v : List V} {x : List Value} (r : VRels c h φ v x) : VRels (c.wg g) h' φ v x :=
  VRels.mono (c := (c.wg g)) (fun a o e _ _ _ => k a o e) st.w.isL (st.ghseq hg) ⟨[], by simp, by simp⟩ (r.regh hg)
theorem St.grow (st : St c φ H L m h) (k : KeepA h h') (hg : ∀ a ∈ g, a ∈ c.gh ∨ (h.get? a = none ∧ ∃ o, h'.get? a = some o ∧ isSeq o)) (ns : h'.Ns L' m') (nk : m' hkey = none) (ab : c.h₀.objs.size ≤ L') : St (c.wg g) φ H L' m' h' := by
  have w := st.w
  have hg' : ∀ a ∈ g, a ∈ c.gh ∨ h.get? a = none := fun a ha => (hg a ha).imp id (·.1)
  refine ⟨⟨fun a ha => ?_, fun a o e => k _ _ (w.stays a o e), w.fresh, w.nodup, w.len, fun n l e => ?_⟩, ns, nk, ab⟩
  · rcases hg a ha with q | ⟨q, o, e, hs⟩
    · obtain ⟨h1, h2, o, e, hs⟩ := w.ghs a q
      exact ⟨h1, h2, o, k a o e, hs⟩
    · refine ⟨w.none0 q, fun hm => ?_, o, e, hs⟩
      obtain ⟨xs, n, e⟩ := w.isL a hm
      rw [q] at e; cases e
  · obtain ⟨a, xs, n, h1, h2, h3⟩ := w.cells n l e
    exact ⟨a, xs, n, h1, k _ _ h2, h3.grow st k hg'⟩
end

noncomputable def Source (c : Cx) (prog : Program) (w : World) (A : Around) (target : Expr) (L₀ : Addr) (φ : List Addr) (hp : Heap) (items : List V) (X : V) (Hx : Hp) (it : Value) (h : Heap) : Prop :=
  ∃ (I : Addr) (wr tg : List Addr), it = .ref I ∧ (∀ a ∈ wr, hp.get? a = none ∧ ∃ o, h.get? a = some o) ∧ (∀ a ∈ tg, a ∈ wr ∧ ∃ o, h.get? a = some o ∧ isSeq o) ∧
    ∀ (g : List Addr) (L : Addr) (h' : Heap), (∀ a ∈ g, a ∈ c.gh ∨ h.get? a = none) → KeepA h h' → (L = L₀ ∨ h.get? L = none) →
      ∃ (S : Nat → List Addr → Heap → Prop) (Md : Nat → Value → List Addr → Heap → Prop), Turns (c.wg (tg ++ g)) prog w A target I L wr items X Hx S Md ∧ S 0 φ h'

section
variable {c : Cx} {prog : Program} {w : World} {A : Around} {E : Value → Shared → Prop} {s : Shared} {target : Expr} {φ : List Addr} {H : Hp} {L : Addr} {m : Str → Option Value}
theorem keepA_push (h : Heap) (o : Obj) : KeepA h (h.push o) := fun _ _ e => Heap.get?_push_of_some o e
theorem KeepA.trans {h h' h'' : Heap} (x : KeepA h h') (y : KeepA h' h'') : KeepA h h'' := fun a o e => y a o (x a o e)

theorem noneOf {h h' : Heap} (k : KeepA h h') {a : Addr} (e : h'.get? a = none) : h.get? a = none := by
  cases q : h.get? a with
  | none => rfl
  | some o => rw [k a o q] at e; cases e

theorem source_one (st : St c φ H L m s.heap) {items : List V} {X : V} {T : String} {fs : Array Value} {Sw : List Addr → Addr → Nat → List Addr → Heap → Prop} {Mw : List Addr → Addr → Nat → Value → List Addr → Heap → Prop}
    (hS : ∀ (g : List Addr) (L' : Addr), (∀ a ∈ g, a ∈ c.gh ∨ s.heap.get? a = none) → s.heap.objs.size ≠ L' → s.heap.objs.size ∉ g →
      Turns (c.wg g) prog w A target s.heap.objs.size L' [s.heap.objs.size] items X H (Sw g L') (Mw g L') ∧
      ∀ h', h'.get? s.heap.objs.size = some { cls := .type T, data := .fields fs } → KeepA s.heap h' → (L' = L ∨ s.heap.get? L' = none) → Sw g L' 0 φ h') :
    Source c prog w A target L φ s.heap items X H (.ref s.heap.objs.size) (s.heap.push { cls := .type T, data := .fields fs }) := by
  refine ⟨s.heap.objs.size, [s.heap.objs.size], [], rfl, fun a ha => ?_, by simp, fun g L' h' hg hk hL => ?_⟩
  · rw [List.mem_singleton.mp ha]
    exact ⟨get_none_of_le (Nat.le_refl _), _, Heap.get?_push_size _ rfl⟩
  · have hI : (s.heap.push { cls := .type T, data := .fields fs }).get? s.heap.objs.size = some { cls := .type T, data := .fields fs } := Heap.get?_push_size _ rfl
    have hg' : ∀ a ∈ g, a ∈ c.gh ∨ s.heap.get? a = none := fun a ha => (hg a ha).imp id (noneOf (keepA_push _ _))
    have n1 : s.heap.objs.size ≠ L' := by
      rcases hL with rfl | hL
      · intro q
        obtain ⟨o, _, _, e, _⟩ := st.l.ns
        exact absurd (Heap.lt_size e) (by rw [q]; exact Nat.lt_irrefl _)
      · intro q; rw [← q, hI] at hL; cases hL
    have n2 : s.heap.objs.size ∉ g := fun q => by
      rcases hg _ q with q | q
      · exact new_notgh st.w q
      · rw [hI] at q; cases q
    obtain ⟨t1, t2⟩ := hS g L' hg' n1 n2
    exact ⟨_, _, t1, t2 h' (hk _ _ hI) ((keepA_push _ _).trans hk) (hL.imp id (noneOf (keepA_push _ _)))⟩

theorem source_ok {items : List V} {X : V} {x : Value} {Q : Value → Shared → Prop} (hh : A.handled = none) (e : itemsV H X = some items) (st : St c φ H L m s.heap) (r : VRel c s.heap φ X x)
    (h : ∀ it h', Source c prog w A target L φ s.heap items X H it h' → KeepA s.heap h' → Q it { s with heap := h' }) : wpAny (model prog w) A (pyIter x) Q E s := by
  have hn : s.heap.get? s.heap.objs.size = none := get_none_of_le (Nat.le_refl _)
  have lists : listV H X = some items → wpAny (model prog w) A (pyIter x) Q E s := by
    intro e
    obtain ⟨a, xs, n, rfl, h1, h2⟩ := listV_ok st.w e r
    refine wpAny_pyIter_list (isList_of h1) (h _ _ (source_one st fun g L' hg n1 n2 => ⟨turns_list hh (c := (c.wg g)) (ax := a) e (st.w.none0 hn) n1 n2 (fun q => by rw [q, hn] at h1; cases h1), fun h' h3 h4 hL => ?_⟩) (keepA_push _ _))
    exact ⟨⟨_, h3, rfl, rfl⟩, new_notin st.w, r.grow st h4 hg, xs, n, h4 _ _ h1, h2.grow st h4 hg⟩
  cases X with
  | lst l => exact lists e
  | cell n => exact lists e
  | tup l =>
    cases e
    obtain ⟨a, xs, n, rfl, h1, h0, h2⟩ := r
    have hne : a ≠ s.heap.objs.size := fun q => by rw [q, hn] at h1; cases h1
    have na : a ∉ φ := fun hm => by obtain ⟨ys, k, q⟩ := st.w.isL a hm; rw [h1] at q; simp at q
    have W := Walks.tuple (prog := prog) (w := w) hh s.heap.objs.size a hne xs.toArray
    rw [show xs.toArray.size = items.length by rw [← h2.length]; simp] at W
    refine wpAny_pyIter_tuple (isTup_of h1) (h _ _ (source_one st fun g L' hg n1 n2 => ⟨turns_walks (c := (c.wg g)) (T := "tuple_iterator") (its := items) (xs := xs) W
      (by decide) (by decide) (fun i h q => by obtain ⟨o, e, hc, hd⟩ := q.1; exact ⟨o, _, e, hc, hd⟩) (st.w.none0 hn) n1 n2 (fun {i v x φ h} hv hp hr => by
        obtain ⟨y, q1, q2⟩ := hr.get hv
        rw [List.getElem?_toArray] at hp
        rw [hp] at q1; cases q1; exact q2), fun h' h3 h4 hL => ?_⟩) (keepA_push _ _))
    have aL : a ≠ L' := by
      rcases hL with rfl | hL
      · exact st.l.notDur h1 trivial
      · intro q; rw [q, hL] at h1; cases h1
    refine ⟨⟨⟨_, h3, rfl, rfl⟩, (isTup_of h1).at fun o e => h4 _ _ e⟩, new_notin st.w, fun b hb => ?_, h2.grow st h4 hg⟩
    rcases List.mem_cons.mp hb with rfl | hb
    · exact ⟨new_notin st.w, n1, n2, _, h3, fun ⟨v, q⟩ => by cases q⟩
    · rw [List.mem_singleton] at hb; subst hb
      refine ⟨na, aL, fun q => ?_, _, h4 _ _ h1, fun ⟨v, q⟩ => by cases q⟩
      rcases hg _ q with q | q
      · exact h0 q
      · rw [q] at h1; cases h1
  | rng n =>
    · obtain ⟨hlt, e⟩ := ifsome e
      rw [rngOk_iff] at hlt
      obtain rfl := someq e
      obtain ⟨a, t, u, v, rfl, h1⟩ := r
      have hsz : Builtin.Range.rangeSize 0 n 1 = n.toNat := by
        rw [range_size (by decide)]
        have : (n - 0 + 1 - 1) / 1 = n := by rw [Int.ediv_one, Int.add_sub_cancel, Int.sub_zero]
        rw [this]
      have hsm : Builtin.Range.small 0 n 1 = true := by
        unfold Builtin.Range.small Builtin.Range.rangeFitsLong
        rw [hsz]
        simp only [gt_iff_lt, Int.zero_lt_one, if_true, Bool.and_eq_true, Bool.or_eq_true, decide_eq_true_eq, beq_iff_eq]
        obtain ⟨l1, l2⟩ := hlt
        omega
      have W := Walks.range (prog := prog) (w := w) hh s.heap.objs.size 0 1 n.toNat
      rw [show n.toNat = (upTo n.toNat).length by simp [upTo]] at W
      refine wpAny_pyIter_range h1 hsm (h _ _ (source_one st fun g L' hg n1 n2 => ⟨turns_walks (c := (c.wg g)) (T := "range_iterator") (its := []) (xs := []) W
        (by decide) (by decide) (fun i h q => ⟨_, _, q, rfl, rfl⟩) (st.w.none0 hn) n1 n2 (fun {i v x φ h} hv hp hr => by
          obtain ⟨u, rfl⟩ := hp
          simp only [upTo, List.getElem?_map] at hv
          obtain ⟨j, hj, rfl⟩ := Option.map_eq_some_iff.mp hv
          obtain ⟨hl, hj⟩ := List.getElem?_eq_some_iff.mp hj
          rw [List.getElem_range] at hj
          subst hj
          exact ⟨u, by simp⟩), fun h' h3 h4 hL => ?_⟩) (keepA_push _ _))
      refine ⟨?_, new_notin st.w, fun b hb => ?_, rfl⟩
      · rw [hsz] at h3
        have e1 : (0 : Int) + ((0 : Nat) : Int) * 1 = 0 := rfl
        have e2 : (((upTo n.toNat).length : Nat) : Int) - ((0 : Nat) : Int) = (n.toNat : Int) := by simp [upTo]
        rw [e1, e2]; exact h3
      · rw [List.mem_singleton] at hb; subst hb
        exact ⟨new_notin st.w, n1, n2, _, h3, fun ⟨v, q⟩ => by cases q⟩
  | _ => exact nosome e
end
end Mine

-- M17
set_option autoImplicit false
set_option maxRecDepth 100000
namespace Mine
open PySem PySem.W PyProof.Rows

structure ZApart (z TI TO i1 i2 : Addr) (f1 f2 : List Addr) : Prop where
  TIz : TI ≠ z
  TOz : TO ≠ z
  i1z : i1 ≠ z
  i2z : i2 ≠ z
  TITO : TI ≠ TO
  TIi1 : TI ≠ i1
  TIi2 : TI ≠ i2
  TOi1 : TO ≠ i1
  TOi2 : TO ≠ i2
  z1 : z ∉ f1
  z2 : z ∉ f2
  o1 : TO ∉ f1
  o2 : TO ∉ f2
  x12 : i1 ∉ f2
  x21 : i2 ∉ f1

section
variable {prog : Program} {w : World} {A : Around} {E : Value → Shared → Prop} {s : Shared} {z TI TO i1 i2 : Addr} {f1 f2 : List Addr} {n1 n2 : Nat} {P1 P2 : Nat → Value → Prop} {S1 S2 : Nat → Heap → Prop} {i : Nat}

theorem frSame {it : Addr} {fp : List Addr} {n : Nat} {P : Nat → Value → Prop} {S : Nat → Heap → Prop} (D : Draws prog w A it fp n P S) {j : Nat} {h h' : Heap} {a : Addr} (ha : a ∉ fp) (hs : Heap.SameBut a h h') (st : S j h) : S j h' :=
  D.frame j h h' st fun b hb o e => hs.extBut b o (fun q => ha (q ▸ hb)) e

theorem zipD_item {a b : Value} {Q : Value → Shared → Prop} (D1 : Draws prog w A i1 f1 n1 P1 S1) (D2 : Draws prog w A i2 f2 n2 P2 S2) (D : ZApart z TI TO i1 i2 f1 f2)
    (hz : IsZip s.heap z TI TO .none) (hTI : IsPair s.heap TI (.ref i1) (.ref i2)) (hTO : IsPair s.heap TO a b) (h1 : S1 i s.heap) (h2 : S2 i s.heap) (l1 : i < n1) (l2 : i < n2)
    (hQ : ∀ h' tk x y, IsZip h' z TI TO (rawInt s.heap.objs.size) → IsPair h' TO x y → S1 (i + 1) h' → S2 (i + 1) h' → IsPair h' s.heap.objs.size x y → P1 i x → P2 i y →
      (∀ c o, c ≠ z → c ≠ TO → c ≠ i1 → c ≠ i2 → s.heap.get? c = some o → h'.get? c = some o) → Q (.ref s.heap.objs.size) (sht s h' tk)) :
    wpAny (model prog w) A (Builtin.«zip.__next__» ⟨[.ref z], []⟩) (fun fin s' => ∃ v, fin = .done (.ret v) ∧ Q v s') E s := by
  show wpAny _ _ (field (.ref z) 2 >>= _) _ _ _
  refine wpAny_bind (wpAny_field hz rfl (x := .bool false) rfl ?_)
  show wpAny _ _ (field (.ref z) 3 >>= _) _ _ _
  refine wpAny_bind (wpAny_field hz rfl (x := .ref TI) rfl ?_)
  refine wpAny_bind (wpAny_seqItems hTI rfl ?_)
  show wpAny _ _ (Builtin.SmallTypes.ownedTupleIsFree (.ref z) >>= _) _ _ _
  refine wpAny_bind ?_
  unfold Builtin.SmallTypes.ownedTupleIsFree
  refine wpAny_bind (wpAny_field hz rfl (x := .none) rfl (wpAny_pure ?_))
  simp only [if_true]
  refine wpAny_bind (wpAny_rule ?_)
  refine wpAny_bind (wpAny_field hz rfl (x := .ref TO) rfl ?_)
  refine wpAny_bind (wpAny_setField_rec hz (by simp) fun h₁ hz₁ hs₁ => ?_)
  replace hz₁ : IsZip h₁ z TI TO .ellipsis := hz₁
  refine wpAny_bind ?_
  simp only [List.zipIdx_cons, List.zipIdx_nil, List.forIn_cons, List.forIn_nil]
  refine wpAny_bind (wpAny_bind (wpAny_onRaise ?_))
  show wpAny _ _ (Builtin.SmallTypes.nextOf (.ref i1) >>= _) _ _ _
  refine wpAny_bind (D1.item i _ _ _ l1 (frSame D1 D.z1 hs₁ h1) fun x h₂ t₂ px h1₂ hs₂ => wpAny_pure ?_)
  have h2₂ : S2 i h₂ := frSame D2 D.x12 hs₂ (frSame D2 D.z2 hs₁ h2)
  have hTO₂ : IsPair h₂ TO a b := hs₂.extBut _ _ D.TOi1 (hs₁.extBut _ _ D.TOz hTO)
  refine wpAny_bind (wpAny_seqItems hTO₂ rfl ?_)
  refine wpAny_bind (wpAny_updateSeq_pair hTO₂ fun h₃ hTO₃ hs₃ => ?_)
  replace hTO₃ : IsPair h₃ TO x b := hTO₃
  refine wpAny_bind (wpAny_letGo (wpAny_pure ?_))
  refine wpAny_bind (wpAny_bind (wpAny_onRaise ?_))
  show wpAny _ _ (Builtin.SmallTypes.nextOf (.ref i2) >>= _) _ _ _
  refine wpAny_bind (D2.item i _ _ _ l2 (frSame D2 D.o2 hs₃ h2₂) fun y h₄ t₄ py h2₄ hs₄ => wpAny_pure ?_)
  have hTO₄ : IsPair h₄ TO x b := hs₄.extBut _ _ D.TOi2 hTO₃
  refine wpAny_bind (wpAny_seqItems hTO₄ rfl ?_)
  refine wpAny_bind (wpAny_updateSeq_pair hTO₄ fun h₅ hTO₅ hs₅ => ?_)
  replace hTO₅ : IsPair h₅ TO x y := hTO₅
  refine wpAny_bind (wpAny_letGo (wpAny_pure (wpAny_pure ?_)))
  refine wpAny_bind (wpAny_seqItems hTO₅ rfl ?_)
  refine wpAny_bind (wpAny_newTuple ?_)
  have hsz : h₅.objs.size = s.heap.objs.size := by rw [hs₅.1, hs₄.1, hs₃.1, hs₂.1, hs₁.1]
  have hz₅ : IsZip h₅ z TI TO .ellipsis := hs₅.extBut _ _ D.TOz.symm (hs₄.extBut _ _ D.i2z.symm (hs₃.extBut _ _ D.TOz.symm (hs₂.extBut _ _ D.i1z.symm hz₁)))
  have hk₅ : ∀ c o, c ≠ z → c ≠ TO → c ≠ i1 → c ≠ i2 → s.heap.get? c = some o → h₅.get? c = some o := fun c o c1 c2 c3 c4 e =>
    hs₅.extBut _ _ c2 (hs₄.extBut _ _ c4 (hs₃.extBut _ _ c2 (hs₂.extBut _ _ c3 (hs₁.extBut _ _ c1 e))))
  have h1₅ : S1 (i + 1) h₅ := frSame D1 D.o1 hs₅ (frSame D1 D.x21 hs₄ (frSame D1 D.o1 hs₃ h1₂))
  have h2₅ : S2 (i + 1) h₅ := frSame D2 D.o2 hs₅ h2₄
  have hzlt : z < h₅.objs.size := Heap.lt_size hz₅
  show wpAny _ _ (Builtin.SmallTypes.ownedTupleHandOut (.ref z) (.ref h₅.objs.size) >>= _) _ _ _
  refine wpAny_bind ?_
  unfold Builtin.SmallTypes.ownedTupleHandOut
  have hz₆ : IsZip (h₅.push { cls := .type "tuple", data := .seq #[x, y] }) z TI TO .ellipsis := Heap.get?_push_of_some _ hz₅
  refine wpAny_bind (wpAny_setField_rec hz₆ (by simp) fun h₇ hz₇ hs₇ => ?_)
  replace hz₇ : IsZip h₇ z TI TO (rawInt h₅.objs.size) := hz₇
  refine wpAny_setField_rec hz₇ (by simp) fun h₈ hz₈ hs₈ => ?_
  replace hz₈ : IsZip h₈ z TI TO (rawInt h₅.objs.size) := hz₈
  have up : ∀ c o, c ≠ z → h₅.get? c = some o → h₈.get? c = some o := fun c o c1 e => hs₈.extBut _ _ c1 (hs₇.extBut _ _ c1 (Heap.get?_push_of_some _ e))
  have hT₈ : IsPair h₈ h₅.objs.size x y := hs₈.extBut _ _ (Nat.ne_of_gt hzlt) (hs₇.extBut _ _ (Nat.ne_of_gt hzlt) (Heap.get?_push_size _ rfl))
  rw [hsz] at hz₈ hT₈
  refine wpAny_pure ⟨_, rfl, ?_⟩
  show Q (.ref h₅.objs.size) _
  rw [hsz]
  exact hQ h₈ t₄ x y hz₈ (up _ _ D.TOz hTO₅) (D1.frame _ _ _ h1₅ fun b hb o e => up b o (fun q => D.z1 (q ▸ hb)) e) (D2.frame _ _ _ h2₅ fun b hb o e => up b o (fun q => D.z2 (q ▸ hb)) e) hT₈ px py
    fun c o c1 c2 c3 c4 e => up c o c1 (hk₅ c o c1 c2 c3 c4 e)

theorem zipD_end {a b : Value} {Q : Fin → Shared → Prop} (D1 : Draws prog w A i1 f1 n1 P1 S1) (D2 : Draws prog w A i2 f2 n2 P2 S2) (D : ZApart z TI TO i1 i2 f1 f2)
    (hz : IsZip s.heap z TI TO .none) (hTI : IsPair s.heap TI (.ref i1) (.ref i2)) (hTO : IsPair s.heap TO a b) (h1 : S1 i s.heap) (h2 : S2 i s.heap) (hend : i = n1 ∨ i < n1 ∧ i = n2)
    (hE : ∀ h' tk e, (∀ c o, c ≠ z → c ≠ TO → c ≠ i1 → c ≠ i2 → s.heap.get? c = some o → h'.get? c = some o) → (∃ o, h'.get? e = some o ∧ o.cls = .type "StopIteration") → E (.ref e) (sht s h' tk)) :
    wpAny (model prog w) A (Builtin.«zip.__next__» ⟨[.ref z], []⟩) Q E s := by
  show wpAny _ _ (field (.ref z) 2 >>= _) _ _ _
  refine wpAny_bind (wpAny_field hz rfl (x := .bool false) rfl ?_)
  show wpAny _ _ (field (.ref z) 3 >>= _) _ _ _
  refine wpAny_bind (wpAny_field hz rfl (x := .ref TI) rfl ?_)
  refine wpAny_bind (wpAny_seqItems hTI rfl ?_)
  show wpAny _ _ (Builtin.SmallTypes.ownedTupleIsFree (.ref z) >>= _) _ _ _
  refine wpAny_bind ?_
  unfold Builtin.SmallTypes.ownedTupleIsFree
  refine wpAny_bind (wpAny_field hz rfl (x := .none) rfl (wpAny_pure ?_))
  simp only [if_true]
  refine wpAny_bind (wpAny_rule ?_)
  refine wpAny_bind (wpAny_field hz rfl (x := .ref TO) rfl ?_)
  refine wpAny_bind (wpAny_setField_rec hz (by simp) fun h₁ hz₁ hs₁ => ?_)
  replace hz₁ : IsZip h₁ z TI TO .ellipsis := hz₁
  refine wpAny_bind ?_
  simp only [List.zipIdx_cons, List.zipIdx_nil, List.forIn_cons, List.forIn_nil]
  refine wpAny_bind (wpAny_bind (wpAny_onRaise ?_))
  show wpAny _ _ (Builtin.SmallTypes.nextOf (.ref i1) >>= _) _ _ _
  rcases hend with rfl | ⟨l1, rfl⟩
  · refine wpAny_bind (D1.done _ _ _ (frSame D1 D.z1 hs₁ h1) fun h₂ e hs₂ he => ?_)
    obtain ⟨oe, hoe, hce⟩ := he
    have hz₂ : IsZip h₂ z TI TO .ellipsis := hs₂ _ _ D.i1z.symm hz₁
    have hez : e ≠ z := fun x => by subst x; rw [hz₂] at hoe; cases hoe; simp at hce
    refine wpAny_setField_rec hz₂ (by simp) fun h₃ _ hs₃ => hE h₃ _ e (fun c o c1 _ c3 _ x => hs₃.extBut _ _ c1 (hs₂ _ _ c3 (hs₁.extBut _ _ c1 x))) ⟨oe, hs₃.extBut _ _ hez hoe, hce⟩
  · refine wpAny_bind (D1.item i _ _ _ l1 (frSame D1 D.z1 hs₁ h1) fun x h₂ t₂ px h1₂ hs₂ => wpAny_pure ?_)
    have h2₂ : S2 i h₂ := frSame D2 D.x12 hs₂ (frSame D2 D.z2 hs₁ h2)
    have hTO₂ : IsPair h₂ TO a b := hs₂.extBut _ _ D.TOi1 (hs₁.extBut _ _ D.TOz hTO)
    refine wpAny_bind (wpAny_seqItems hTO₂ rfl ?_)
    refine wpAny_bind (wpAny_updateSeq_pair hTO₂ fun h₃ hTO₃ hs₃ => ?_)
    refine wpAny_bind (wpAny_letGo (wpAny_pure ?_))
    refine wpAny_bind (wpAny_bind (wpAny_onRaise ?_))
    show wpAny _ _ (Builtin.SmallTypes.nextOf (.ref i2) >>= _) _ _ _
    refine wpAny_bind (D2.done _ _ _ (frSame D2 D.o2 hs₃ h2₂) fun h₄ e hs₄ he => ?_)
    obtain ⟨oe, hoe, hce⟩ := he
    have hz₄ : IsZip h₄ z TI TO .ellipsis := hs₄ _ _ D.i2z.symm (hs₃.extBut _ _ D.TOz.symm (hs₂.extBut _ _ D.i1z.symm hz₁))
    have hez : e ≠ z := fun x => by subst x; rw [hz₄] at hoe; cases hoe; simp at hce
    refine wpAny_setField_rec hz₄ (by simp) fun h₅ _ hs₅ => hE h₅ _ e (fun c o c1 c2 c3 c4 x => hs₅.extBut _ _ c1 (hs₄ _ _ c4 (hs₃.extBut _ _ c2 (hs₂.extBut _ _ c3 (hs₁.extBut _ _ c1 x))))) ⟨oe, hs₅.extBut _ _ hez hoe, hce⟩
end

structure WX (prog : Program) (w : World) (A : Around) (I : Addr) (fp wr : List Addr) (n : Nat) (Pt : Nat → Value → Value → Prop) (Sw : Nat → Heap → Prop) (Mid : Nat → Addr → Heap → Prop) : Prop where
  sub : ∀ b ∈ wr, b ∈ fp
  frame : ∀ i h h', Sw i h → (∀ b ∈ fp, ∀ o, h.get? b = some o → h'.get? b = some o) → Sw i h'
  item : ∀ i (s : Shared) (Q : Option Value → Shared → Prop) (E : Value → Shared → Prop), i < n → Sw i s.heap →
    (∀ T x y k h' tk, Pt i x y → s.heap.objs.size ≤ T → h'.get? T = some (tobj [x, y] k) → Mid i T h' → KeepW wr s.heap h' → Q (some (.ref T)) (sht s h' tk)) →
    wpAny (model prog w) A (pyNext (.ref I)) Q E s
  go : ∀ (elts : List Expr) (k : Nat) (pos : Pos) i T (s : Shared) (Q : Unit → Shared → Prop) (E : Value → Shared → Prop), Mid i T s.heap →
    (∀ h', Sw (i + 1) h' → KeepW wr s.heap h' → Q () { s with heap := h' }) → wpAny (model prog w) A (letOwnedTupleGo (.Tuple elts k pos) (.ref I) (.ref T)) Q E s
  apart : ∀ i T h, Mid i T h → T ∉ wr
  done : ∀ (s : Shared) (Q : Option Value → Shared → Prop) (E : Value → Shared → Prop), Sw n s.heap →
    (∀ h' tk, KeepW wr s.heap h' → Q none (sht s h' tk)) → wpAny (model prog w) A (pyNext (.ref I)) Q E s
  self : ∀ i (s : Shared) (Q : Value → Shared → Prop) (E : Value → Shared → Prop), Sw i s.heap → Q (.ref I) s → wpAny (model prog w) A (pyIter (.ref I)) Q E s

section
variable {prog : Program} {w : World} {A : Around} {z TI TO i1 i2 : Addr} {f1 f2 : List Addr} {n1 n2 : Nat} {P1 P2 : Nat → Value → Prop} {S1 S2 : Nat → Heap → Prop}
theorem walks_zip (D1 : Draws prog w A.in1 i1 f1 n1 P1 S1) (D2 : Draws prog w A.in1 i2 f2 n2 P2 S2) (D : ZApart z TI TO i1 i2 f1 f2) (m1 : i1 ∈ f1) (m2 : i2 ∈ f2) :
    WX prog w A z ([z, TI, TO] ++ (f1 ++ f2)) [z, TO, i1, i2] (min n1 n2)
      (fun i x y => P1 i x ∧ P2 i y)
      (fun i h => IsZip h z TI TO .none ∧ IsPair h TI (.ref i1) (.ref i2) ∧ (∃ a b, IsPair h TO a b) ∧ S1 i h ∧ S2 i h)
      (fun i T h => IsZip h z TI TO (rawInt T) ∧ IsPair h TI (.ref i1) (.ref i2) ∧ (∃ a b, IsPair h TO a b) ∧ S1 (i + 1) h ∧ S2 (i + 1) h ∧ T ≠ z ∧ T ≠ TO ∧ T ≠ i1 ∧ T ≠ i2) where
  sub := fun c hc => by simp at hc ⊢; rcases hc with rfl | rfl | rfl | rfl <;> simp [m1, m2]
  frame := fun i h h' hst hk => by
    obtain ⟨hz, hTI, ⟨a, b, hTO⟩, h1, h2⟩ := hst
    exact ⟨hk z (by simp) _ hz, hk TI (by simp) _ hTI, ⟨a, b, hk TO (by simp) _ hTO⟩, D1.frame _ _ _ h1 fun b hb o e => hk b (by simp [hb]) o e, D2.frame _ _ _ h2 fun b hb o e => hk b (by simp [hb]) o e⟩
  item := fun i s Q E hi hst hQ => by
    obtain ⟨hz, hTI, ⟨a, b, hTO⟩, h1, h2⟩ := hst
    have hT : s.TypeIs (.ref z) "zip" := ⟨_, hz, rfl⟩
    have lt : ∀ {c o}, s.heap.get? c = some o → s.heap.objs.size ≠ c := fun e => Nat.ne_of_gt (Heap.lt_size e)
    unfold pyNext
    refine wpAny_bind (wpAny_attempt (wpAny_callSpecial?_slot (name := Str.ofString "__next__") hT F.slot_zip_next
      (wpAny_call_entry F.slot_zip_next hT F.entry_zip_next
        (zipD_item D1 D2 D hz hTI hTO h1 h2 (Nat.lt_of_lt_of_le hi (Nat.min_le_left ..)) (Nat.lt_of_lt_of_le hi (Nat.min_le_right ..)) fun h' tk x y a1 a2 a3 a4 a5 p1 p2 hk => wpAny_pure ?_) (F.args_zip_next_1 _))))
    obtain ⟨o1, e1⟩ := D1.live _ _ h1
    obtain ⟨o2, e2⟩ := D2.live _ _ h2
    exact hQ s.heap.objs.size x y _ h' tk ⟨p1, p2⟩ (Nat.le_refl _) a5
      ⟨a1, hk _ _ D.TIz D.TITO D.TIi1 D.TIi2 hTI, ⟨_, _, a2⟩, a3, a4, lt hz, lt hTO, lt e1, lt e2⟩
      fun c o hc e => hk c o (fun x => hc (by simp [x])) (fun x => hc (by simp [x])) (fun x => hc (by simp [x])) (fun x => hc (by simp [x])) e
  go := fun elts k pos i T s Q E hm hQ => by
    obtain ⟨hz, hTI, ⟨a, b, hTO⟩, h1, h2, _⟩ := hm
    refine wpAny_letOwnedTupleGo_zip hz fun h' hz' hs' => hQ h' ⟨hz', hs'.extBut _ _ D.TIz hTI, ⟨a, b, hs'.extBut _ _ D.TOz hTO⟩, frSame D1 D.z1 hs' h1, frSame D2 D.z2 hs' h2⟩ fun c o hc e => hs'.extBut _ _ (fun x => hc (by simp [x])) e
  apart := fun i T h hm hT => by
    obtain ⟨_, _, _, _, _, t1, t2, t3, t4⟩ := hm
    simp at hT
    rcases hT with rfl | rfl | rfl | rfl
    · exact t1 rfl
    · exact t2 rfl
    · exact t3 rfl
    · exact t4 rfl
  done := fun s Q E hst hQ => by
    obtain ⟨hz, hTI, ⟨a, b, hTO⟩, h1, h2⟩ := hst
    have hT : s.TypeIs (.ref z) "zip" := ⟨_, hz, rfl⟩
    unfold pyNext
    refine wpAny_bind (wpAny_attempt (wpAny_callSpecial?_slot (name := Str.ofString "__next__") hT F.slot_zip_next
      (wpAny_call_entry F.slot_zip_next hT F.entry_zip_next (zipD_end D1 D2 D hz hTI hTO h1 h2 (by omega) fun h' tk e hk he => ?_) (F.args_zip_next_1 _))))
    obtain ⟨o, ho, hc⟩ := he
    refine wpAny_bind (wpAny_isInstance (T := "StopIteration") (b := true) ⟨o, ho, hc⟩ isSubtype_stop ?_)
    exact wpAny_pure (hQ _ _ fun c o hc e => hk c o (fun x => hc (by simp [x])) (fun x => hc (by simp [x])) (fun x => hc (by simp [x])) (fun x => hc (by simp [x])) e)
  self := fun i s Q E hst hQ => wpAny_pyIter_zip hst.1 hQ

theorem walks_enum (hh : A.handled = none) (e it l : Addr) (hei : e ≠ it) (hle : l ≠ e) (hli : l ≠ it) (items : Array Value) :
    WX prog w A e [e, it, l] [e, it] items.size (fun i x y => ∃ t, x = .int i t ∧ items[i]? = some y)
      (fun i h => (∃ old, IsEnum h e it i old) ∧ h.IsListIter it l i ∧ h.IsList l items)
      (fun i T h => (∃ x, IsEnumOut h e it ((i : Int) + 1) x T) ∧ h.IsListIter it l (i + 1) ∧ h.IsList l items ∧ T ≠ e ∧ T ≠ it) where
  sub := fun b hb => by simp at hb ⊢; rcases hb with rfl | rfl <;> simp
  frame := fun i h h' hst hk => by
    obtain ⟨⟨old, he⟩, hit, hl⟩ := hst
    exact ⟨⟨old, hk e (by simp) _ he⟩, hit.at fun o x => hk it (by simp) o x, hl.at fun o x => hk l (by simp) o x⟩
  item := fun i s Q E hi hst hQ => by
    obtain ⟨⟨old, he⟩, hit, hl⟩ := hst
    have hx : items[i]? = some items[i] := Array.getElem?_eq_getElem hi
    refine wpAny_pyNext_enum_item he hit hl hx hei fun h' ho hit' hT hsz hk => ?_
    have helt : e < s.heap.objs.size := Heap.lt_size he
    have hilt : it < s.heap.objs.size := by obtain ⟨_, x, _⟩ := hit; exact Heap.lt_size x
    exact hQ s.heap.objs.size (.int i s.toks) items[i] _ h' (s.toks + 1) ⟨_, rfl, hx⟩ (Nat.le_refl _) hT
      ⟨⟨_, ho⟩, hit', hl.at fun o x => hk l o hle hli x, Nat.ne_of_gt helt, Nat.ne_of_gt hilt⟩
      fun b o hb x => hk b o (fun e' => hb (by simp [e'])) (fun e' => hb (by simp [e'])) x
  go := fun elts k pos i T s Q E hm hQ => by
    obtain ⟨⟨x, ho⟩, hit, hl, hTe, hTi⟩ := hm
    refine wpAny_letOwnedTupleGo_enum ho fun h' he' hs' => hQ h' ⟨⟨x, by simpa using he'⟩, hit.at fun o y => (hs'.2 it hei.symm).trans y, hl.at fun o y => (hs'.2 l hle).trans y⟩ fun b o hb y => ?_
    exact (hs'.2 b fun e' => hb (by simp [e'])).trans y
  apart := fun i T h hm hT => by
    obtain ⟨_, _, _, hTe, hTi⟩ := hm
    simp at hT
    rcases hT with rfl | rfl
    · exact hTe rfl
    · exact hTi rfl
  done := fun s Q E hst hQ => by
    obtain ⟨⟨old, he⟩, hit, hl⟩ := hst
    exact wpAny_pyNext_enum_end hh he hit hl (Array.getElem?_eq_none (Nat.le_refl _)) fun h' hx => hQ h' s.toks fun b o hb y => hx b o (fun e' => hb (by simp [e'])) y
  self := fun i s Q E hst hQ => by
    obtain ⟨⟨old, he⟩, _, _⟩ := hst
    exact wpAny_pyIter_enum he hQ
end

section
variable {c : Cx} {prog : Program} {w : World} {A : Around} {I L : Addr} {items : List V} {X : V} {Hx : Hp} {fp wr : List Addr} {Pt : Nat → Value → Value → Prop} {Sw : Nat → Heap → Prop} {Mid : Nat → Addr → Heap → Prop}

noncomputable def Ob (c : Cx) (wr : List Addr) (h : Heap) : Prop := ∀ a ∈ wr, ∃ o, h.get? a = some o ∧ (a ∈ c.gh → isSeq o) ∧ (a ∉ c.gh → (∃ fs, o.data = .fields fs) ∧ o.cls ≠ .type "range")

theorem Ob.nocell {h : Heap} (x : Ob c wr h) {a : Addr} (ha : a ∈ wr) : ∃ o, h.get? a = some o ∧ ¬ isCellO o := by
  obtain ⟨o, e, q1, q2⟩ := x a ha
  refine ⟨o, e, ?_⟩
  by_cases hg : a ∈ c.gh
  · exact (q1 hg).notCell
  · rintro ⟨v, q⟩
    obtain ⟨⟨fs, q'⟩, _⟩ := q2 hg
    rw [q] at q'; cases q'
theorem turns_X (W : WX prog w A I fp wr items.length Pt Sw Mid) {elts : List Expr} {kk : Nat} {tp : Pos} {its jts : List V} {xs ys : List Value} (hS : ∀ i h, Sw i h → Ob c wr h) (hM : ∀ i T h, Mid i T h → Ob c wr h) (h1 : ∀ a ∈ wr, c.h₀.get? a = none)
    (hP : ∀ {i v x y φ h}, items[i]? = some v → Pt i x y → VRels c h φ its xs → VRels c h φ jts ys → ∃ a b, v = .tup [a, b] ∧ VRel c h φ a x ∧ VRel c h φ b y) :
    Turns c prog w A (.Tuple elts kk tp) I L wr items X Hx (fun i φ h => Sw i h ∧ (∀ b ∈ fp, b ∉ φ ∧ b ≠ L ∧ (b ∈ c.gh → b ∈ wr) ∧ ∃ o, h.get? b = some o ∧ ¬ isCellO o) ∧ VRels c h φ its xs ∧ VRels c h φ jts ys)
      (fun i x φ h => ∃ T p q k, x = .ref T ∧ Pt i p q ∧ h.get? T = some (tobj [p, q] k) ∧ T ∉ c.gh ∧ Mid i T h ∧ (∀ b ∈ fp, b ∉ φ ∧ b ≠ L ∧ (b ∈ c.gh → b ∈ wr) ∧ ∃ o, h.get? b = some o ∧ ¬ isCellO o) ∧ VRels c h φ its xs ∧ VRels c h φ jts ys) := by
  have sd : ∀ {φ h}, Ob c wr h → (∀ b ∈ fp, b ∉ φ ∧ b ≠ L ∧ (b ∈ c.gh → b ∈ wr) ∧ ∃ o, h.get? b = some o ∧ ¬ isCellO o) → Sd c L wr φ h := fun {φ h} a b x hx => ⟨h1 x hx, (b x (W.sub x hx)).1, (b x (W.sub x hx)).2.1, a x hx⟩
  refine ⟨fun q => sd (hS _ _ q.1) q.2.1, fun q => ?_, fun {i φ h φ' h' H H' m m' gx} q st hgx u st' _ => ?_, fun {i v φ H m s Q E} hv q st hQ => ?_, fun {i x v φ H m s Q E} hv q st hQ => ?_, fun {φ H m s Q E} q st hQ => ?_, fun {i φ s Q E} q hQ => W.self i s Q E q.1 hQ⟩
  · obtain ⟨T, p, q, k, rfl, e1, e2, e3, e4, e5, e6, e7⟩ := q
    exact sd (hM _ _ _ e4) e5
  · obtain ⟨a, d, e, f⟩ := q
    obtain ⟨ψ, rfl, hψ⟩ := id u.ext
    refine ⟨W.frame i h h' a fun b hb o e => u.keep b o e (d b hb).1 (d b hb).2.1 (by obtain ⟨_, _, _, o', e', q⟩ := d b hb; rw [e] at e'; cases e'; exact q) (fun q => (hgx b q).2 ((d b hb).2.2.1 (hgx b q).1)), fun b hb => ?_, e.upC st.w st.l (fun a q => (hgx a q).1) u, f.upC st.w st.l (fun a q => (hgx a q).1) u⟩
    obtain ⟨d1, d2, d5, o, d3, d4⟩ := d b hb
    refine ⟨fun hm => ?_, d2, d5, o, u.keep b o d3 d1 d2 d4 (fun q => (hgx b q).2 (d5 (hgx b q).1)), d4⟩
    rcases List.mem_append.mp hm with hm | hm
    · exact d1 hm
    · rw [hψ _ hm] at d3; cases d3
  · obtain ⟨a, d, e, f⟩ := q
    refine W.item i s Q E (List.getElem?_eq_some_iff.mp hv).1 a fun T x y k h' tk hp hT ht hmid hk => hQ (.ref T) h' tk ⟨T, x, y, k, rfl, hp, ht, fun q => ?_, hmid, fun b hb => ?_, e.side st (sd (hS _ _ a) d) hk, f.side st (sd (hS _ _ a) d) hk⟩ hk
    · obtain ⟨_, _, o, e, _⟩ := st.w.ghs T q
      exact absurd (Heap.lt_size e) (Nat.not_lt.mpr hT)
    · obtain ⟨d1, d2, d5, o, d3, d4⟩ := d b hb
      by_cases q : b ∈ wr
      · obtain ⟨o', e', e''⟩ := (hM _ _ _ hmid).nocell q
        exact ⟨d1, d2, d5, o', e', e''⟩
      · exact ⟨d1, d2, d5, o, hk b o q d3, d4⟩
  · obtain ⟨T, p, q, k, rfl, e1, e2, e3, e4, e5, e6, e7⟩ := q
    have sd0 := sd (hM _ _ _ e4) e5
    refine W.go elts kk tp i T s Q E e4 fun h' st' hk => hQ h' ⟨st', fun b hb => ?_, e6.side st sd0 hk, e7.side st sd0 hk⟩ ?_ hk
    · obtain ⟨d1, d2, d5, o, d3, d4⟩ := e5 b hb
      by_cases q : b ∈ wr
      · obtain ⟨o', e', e''⟩ := (hS _ _ st').nocell q
        exact ⟨d1, d2, d5, o', e', e''⟩
      · exact ⟨d1, d2, d5, o, hk b o q d3, d4⟩
    · obtain ⟨a, b, rfl, r1, r2⟩ := hP hv e1 e6 e7
      have : VRel c s.heap φ (.tup [a, b]) (.ref T) := ⟨T, [p, q], k, rfl, e2, e3, .cons r1 (.cons r2 .nil)⟩
      exact this.side st sd0 hk
  · obtain ⟨a, d, e, f⟩ := q
    exact W.done s Q E a fun h' tk hk => hQ h' tk hk
end
end Mine

-- M18
set_option autoImplicit false
set_option maxRecDepth 100000
namespace Mine
open PySem PySem.W PyProof.Rows

noncomputable abbrev sIt (x : Str) (t : Tok) : Obj := { cls := .type "str_ascii_iterator", data := .fields #[.str x t, .int 0 0] }
noncomputable abbrev zs1 (h : Heap) (x : Str) (t : Tok) : Heap := h.push (sIt x t)
noncomputable abbrev zs2 (h : Heap) (x y : Str) (t u : Tok) : Heap := (zs1 h x t).push (sIt y u)
noncomputable abbrev zs3 (h : Heap) (x y : Str) (t u : Tok) : Heap := (zs2 h x y t u).push { cls := .type "tuple", data := .seq #[.ref h.objs.size, .ref (zs1 h x t).objs.size] }
noncomputable abbrev zs4 (h : Heap) (x y : Str) (t u : Tok) : Heap := (zs3 h x y t u).push { cls := .type "tuple", data := .seq #[.none, .none] }
noncomputable abbrev zs5 (h : Heap) (x y : Str) (t u : Tok) : Heap := (zs4 h x y t u).push { cls := .type "zip", data := .fields #[.none, .bool false, .bool false, .ref (zs2 h x y t u).objs.size, .ref (zs3 h x y t u).objs.size] }

set_option maxHeartbeats 2000000 in
theorem meets_zip_str (x y : Str) (t u : Tok) (hx : x.cps.all (· < 128) = true) (hy : y.cps.all (· < 128) = true) :
    Meets (Builtin.«zip.__new__» ⟨[.type "zip", .str x t, .str y u], []⟩) (fun _ R s => R (.ok (.ret (.ref (zs4 s.heap x y t u).objs.size))) { s with heap := zs5 s.heap x y t u }) :=
  .of_wp fun prog w A R s h => by
    obtain ⟨hp, g, d, tk, os⟩ := s
    have hsub := sub_zip
    wp_walk using wpAny_pyIter_ascii hx, wpAny_pyIter_ascii hy
    exact ⟨_, rfl, h⟩

section
variable {prog : Program} {w : World} {A : Around} {E : Value → Shared → Prop} {s : Shared}
theorem call_zip_str {x y : Str} {t u : Tok} {Q : Value → Shared → Prop} (hx : x.cps.all (· < 128) = true) (hy : y.cps.all (· < 128) = true)
    (h : ∀ h', IsZip h' (s.heap.objs.size + 4) (s.heap.objs.size + 2) (s.heap.objs.size + 3) .none → IsPair h' (s.heap.objs.size + 2) (.ref s.heap.objs.size) (.ref (s.heap.objs.size + 1)) →
      IsPair h' (s.heap.objs.size + 3) .none .none → h'.IsStrIter s.heap.objs.size "str_ascii_iterator" x t 0 → h'.IsStrIter (s.heap.objs.size + 1) "str_ascii_iterator" y u 0 →
      KeepA s.heap h' → Q (.ref (s.heap.objs.size + 4)) { s with heap := h' }) :
    wpAny (model prog w) A (call (.type "zip") [.str x t, .str y u]) Q E s := by
  refine callType_new F.called_zip (by decide) (F.typeCall_zip_2 _ _) (F.newCall_zip_2 _ _) (fun obj => F.args_object_init_3 obj _ _) F.entry_zip_new (meets_zip_str x y t u hx hy) ?_
  have z1 : (zs1 s.heap x t).objs.size = s.heap.objs.size + 1 := Heap.size_push ..
  have z2 : (zs2 s.heap x y t u).objs.size = s.heap.objs.size + 2 := by rw [Heap.size_push, z1]
  have z3 : (zs3 s.heap x y t u).objs.size = s.heap.objs.size + 3 := by rw [Heap.size_push, z2]
  have z4 : (zs4 s.heap x y t u).objs.size = s.heap.objs.size + 4 := by rw [Heap.size_push, z3]
  have g5 : (zs5 s.heap x y t u).get? (zs4 s.heap x y t u).objs.size = some _ := Heap.get?_push_size _ rfl
  have g4 : (zs5 s.heap x y t u).get? (zs3 s.heap x y t u).objs.size = some _ := Heap.get?_push_of_some _ (Heap.get?_push_size _ rfl)
  have g3 : (zs5 s.heap x y t u).get? (zs2 s.heap x y t u).objs.size = some _ := Heap.get?_push_of_some _ (Heap.get?_push_of_some _ (Heap.get?_push_size _ rfl))
  have g2 : (zs5 s.heap x y t u).get? (zs1 s.heap x t).objs.size = some _ := Heap.get?_push_of_some _ (Heap.get?_push_of_some _ (Heap.get?_push_of_some _ (Heap.get?_push_size _ rfl)))
  have g1 : (zs5 s.heap x y t u).get? s.heap.objs.size = some _ := Heap.get?_push_of_some _ (Heap.get?_push_of_some _ (Heap.get?_push_of_some _ (Heap.get?_push_of_some _ (Heap.get?_push_size _ rfl))))
  show _ ∧ _
  rw [z2, z3, z4] at g5
  rw [z1, z2] at g3
  rw [z3] at g4
  rw [z1] at g2
  rw [z4]
  exact ⟨⟨_, g5, rfl⟩, h _ g5 g3 g4 ⟨_, g1, rfl, rfl⟩ ⟨_, g2, rfl, rfl⟩ fun c o x =>
    Heap.get?_push_of_some _ (Heap.get?_push_of_some _ (Heap.get?_push_of_some _ (Heap.get?_push_of_some _ (Heap.get?_push_of_some _ x))))⟩
end

section
variable {c : Cx} {prog : Program} {w : World} {A : Around} {E : Value → Shared → Prop} {s : Shared} {φ : List Addr} {H : Hp} {L : Addr} {m : Str → Option Value} {hp h : Heap}

theorem fresh_ok (st : St c φ H L m hp) {b L' : Addr} {o : Obj} (hb : hp.get? b = none) (e : h.get? b = some o) (hL : L' = L ∨ h.get? L' = none) : b ∉ φ ∧ b ≠ L' := by
  refine ⟨fun hm => ?_, fun q => ?_⟩
  · obtain ⟨xs, n, e⟩ := st.w.isL b hm
    rw [hb] at e; cases e
  · rcases hL with rfl | hL
    · obtain ⟨o, _, _, e, _⟩ := st.l.ns
      rw [← q, hb] at e; cases e
    · rw [← q, e] at hL; cases hL
theorem old_ok (st : St c φ H L m hp) (k : KeepA hp h) {b L' : Addr} {o : Obj} (hb : hp.get? b = some o) (d : Dur o) (hL : L' = L ∨ h.get? L' = none) : b ≠ L' := by
  rcases hL with rfl | hL
  · exact st.l.notDur hb d
  · intro q; rw [← q, k b o hb] at hL; cases hL

theorem source_X (st : St c φ H L m hp) (k : KeepA hp h) {I : Addr} {items : List V} {fp wr tg : List Addr} {Pt : Nat → Value → Value → Prop} {Sw : Nat → Heap → Prop} {Mid : Nat → Addr → Heap → Prop} (W : WX prog w A I fp wr items.length Pt Sw Mid)
    {elts : List Expr} {kk : Nat} {tp : Pos} {its jts : List V} {xs ys : List Value} {X : V} (hwr : ∀ a ∈ wr, hp.get? a = none ∧ ∃ o, h.get? a = some o) (htg : ∀ a ∈ tg, a ∈ wr ∧ ∃ o, h.get? a = some o ∧ isSeq o)
    (hfp : ∀ a ∈ fp, (hp.get? a = none ∧ ∃ o, h.get? a = some o ∧ ¬ isCellO o) ∨ (a ∉ φ ∧ a ∉ c.gh ∧ ∃ o, hp.get? a = some o ∧ Dur o))
    (hS : ∀ i h, Sw i h → ∀ a ∈ wr, ∃ o, h.get? a = some o ∧ (a ∈ tg → isSeq o) ∧ (a ∉ tg → (∃ fs, o.data = .fields fs) ∧ o.cls ≠ .type "range"))
    (hM : ∀ i T h, Mid i T h → ∀ a ∈ wr, ∃ o, h.get? a = some o ∧ (a ∈ tg → isSeq o) ∧ (a ∉ tg → (∃ fs, o.data = .fields fs) ∧ o.cls ≠ .type "range"))
    (hP : ∀ {c : Cx} {i v x y φ h}, items[i]? = some v → Pt i x y → VRels c h φ its xs → VRels c h φ jts ys → ∃ a b, v = .tup [a, b] ∧ VRel c h φ a x ∧ VRel c h φ b y)
    (r1 : VRels c hp φ its xs) (r2 : VRels c hp φ jts ys) (h0 : Sw 0 h) : Source c prog w A (.Tuple elts kk tp) L φ hp items X H (.ref I) h := by
  refine ⟨I, wr, tg, rfl, hwr, htg, fun g L' h' hg hk hL => ?_⟩
  have hgw : ∀ a ∈ wr, a ∉ g := fun a ha q => by
    obtain ⟨e1, o, e2⟩ := hwr a ha
    rcases hg a q with q | q
    · obtain ⟨_, _, o, e, _⟩ := st.w.ghs a q
      rw [e1] at e; cases e
    · rw [e2] at q; cases q
  have ob : ∀ {h : Heap}, (∀ a ∈ wr, ∃ o, h.get? a = some o ∧ (a ∈ tg → isSeq o) ∧ (a ∉ tg → (∃ fs, o.data = .fields fs) ∧ o.cls ≠ .type "range")) → Ob (c.wg (tg ++ g)) wr h := fun {h} q a ha => by
    obtain ⟨o, e, q1, q2⟩ := q a ha
    exact ⟨o, e, fun q => q1 ((List.mem_append.mp q).resolve_right (hgw a ha)), fun q => q2 fun q' => q (List.mem_append_left _ q')⟩
  have hgg : ∀ a ∈ tg ++ g, a ∈ c.gh ∨ hp.get? a = none := fun a ha => by
    rcases List.mem_append.mp ha with ha | ha
    · exact .inr (hwr a (htg a ha).1).1
    · exact (hg a ha).imp id (noneOf k)
  refine ⟨_, _, turns_X (c := (c.wg (tg ++ g))) W (its := its) (jts := jts) (xs := xs) (ys := ys) (fun i h q => ob (hS i h q)) (fun i T h q => ob (hM i T h q)) (fun a ha => st.w.none0 (hwr a ha).1) (fun a b c d => hP a b c d), W.frame _ _ _ h0 fun b hb o e => hk b o e, fun b hb => ?_, r1.grow st (k.trans hk) hgg, r2.grow st (k.trans hk) hgg⟩
  rcases hfp b hb with ⟨e1, o, e2, e3⟩ | ⟨e0, ng, o, e1, d⟩
  · obtain ⟨q1, q2⟩ := fresh_ok st e1 e2 hL
    refine ⟨q1, q2, fun q => ?_, o, hk b o e2, e3⟩
    rcases List.mem_append.mp q with q | q
    · exact (htg b q).1
    · rcases hg b q with q | q
      · obtain ⟨_, _, o, e, _⟩ := st.w.ghs b q
        rw [e1] at e; cases e
      · rw [e2] at q; cases q
  · refine ⟨e0, old_ok st k e1 d hL, fun q => ?_, o, hk b o (k b o e1), d.notCell⟩
    rcases List.mem_append.mp q with q | q
    · exact (htg b q).1
    · rcases hg b q with q | q
      · exact absurd q ng
      · rw [k b o e1] at q; cases q

theorem source_zip {items : List V} {x y : Value} {X : V} {Q : Value → Shared → Prop} {elts : List Expr} {kk : Nat} {tp : Pos} {X1 X2 : V} (hh : A.handled = none) (e : srcV .zip X1 X2 H = some items) (st : St c φ H L m s.heap) (ra : VRel c s.heap φ X1 x) (rb : VRel c s.heap φ X2 y)
    (h : ∀ it h', Source c prog w A (.Tuple elts kk tp) L φ s.heap items X H it h' → KeepA s.heap h' → (∀ {Q' : Value → Shared → Prop} {E' : Value → Shared → Prop} {s' : Shared}, s'.heap = h' → Q' it s' → wpAny (model prog w) A (pyIter it) Q' E' s') → Q it { s with heap := h' }) :
    wpAny (model prog w) A (call (.type "zip") [x, y]) Q E s := by
  have hge : ∀ n, s.heap.get? (s.heap.objs.size + n) = none := fun n => get_none_of_le (Nat.le_add_right _ _)
  have inA : A.in1.handled = none := hh
  cases X1 with
  | lst as =>
    cases X2 with
    | lst bs =>
      obtain rfl := someq e
      obtain ⟨l1, xs, n1, rfl, g1, nf1, ng1, r1⟩ := ra
      obtain ⟨l2, ys, n2, rfl, g2, nf2, ng2, r2⟩ := rb
      have lt1 : @LT.lt Nat _ _ _ := Heap.lt_size g1
      have lt2 : @LT.lt Nat _ _ _ := Heap.lt_size g2
      refine call_zip_2 (isList_of g1) (isList_of g2) fun h' b1 b2 b3 b4 b5 b6 b7 => h _ h' ?_ b7 (fun {Q' E' s'} e q => wpAny_pyIter_zip (e ▸ b1) q)
      have D : ZApart (s.heap.objs.size + 4) (s.heap.objs.size + 2) (s.heap.objs.size + 3) s.heap.objs.size (s.heap.objs.size + 1) [s.heap.objs.size, l1] [s.heap.objs.size + 1, l2] := by
        constructor <;> (simp only [List.mem_cons, List.not_mem_nil, or_false, not_or, ne_eq]; first | (intro q; have q' : @Eq Nat _ _ := q; omega) | (constructor <;> (intro q; have q' : @Eq Nat _ _ := q; omega)))
      have W := walks_zip (A := A) (Draws.list (prog := prog) (w := w) inA s.heap.objs.size l1 (Nat.ne_of_lt lt1) xs.toArray) (Draws.list (prog := prog) (w := w) inA (s.heap.objs.size + 1) l2 (Nat.ne_of_lt (Nat.lt_succ_of_lt lt2)) ys.toArray) D (by simp) (by simp)
      rw [show min xs.toArray.size ys.toArray.size = (List.zipWith (fun x y => V.tup [x, y]) as bs).length by simp [r1.length, r2.length]] at W
      refine source_X st b7 W (tg := [s.heap.objs.size + 3]) (its := as) (jts := bs) (xs := xs) (ys := ys) ?_ ?_ ?_ ?_ ?_ ?_ r1 r2 ?_
      · intro a ha
        simp only [List.mem_cons, List.not_mem_nil, or_false] at ha
        rcases ha with rfl | rfl | rfl | rfl
        · exact ⟨hge _, _, b1⟩
        · exact ⟨hge _, _, b3⟩
        · exact ⟨hge 0, let ⟨o, e, _⟩ := b4; ⟨o, e⟩⟩
        · exact ⟨hge _, let ⟨o, e, _⟩ := b5; ⟨o, e⟩⟩
      · intro a ha
        rw [List.mem_singleton] at ha; subst ha
        exact ⟨by simp, _, b3, .inl ⟨[.none, .none], _, rfl⟩⟩
      · intro a ha
        simp only [List.mem_append, List.mem_cons, List.not_mem_nil, or_false] at ha
        rcases ha with (rfl | rfl | rfl) | (rfl | rfl) | (rfl | rfl)
        · exact .inl ⟨hge _, _, b1, fun ⟨v, q⟩ => by cases q⟩
        · exact .inl ⟨hge _, _, b2, fun ⟨v, q⟩ => by cases q⟩
        · exact .inl ⟨hge _, _, b3, fun ⟨v, q⟩ => by cases q⟩
        · exact .inl ⟨hge 0, let ⟨o, e, _, ed⟩ := b4; ⟨o, e, fun ⟨v, q⟩ => by rw [ed] at q; cases q⟩⟩
        · exact .inr ⟨nf1, ng1, _, g1, trivial⟩
        · exact .inl ⟨hge _, let ⟨o, e, _, ed⟩ := b5; ⟨o, e, fun ⟨v, q⟩ => by rw [ed] at q; cases q⟩⟩
        · exact .inr ⟨nf2, ng2, _, g2, trivial⟩
      · intro i h q a ha
        obtain ⟨q1, q2, ⟨u, v, q3⟩, ⟨⟨o4, q4, q4', q4''⟩, _⟩, ⟨o5, q5, q5', q5''⟩, _⟩ := q
        simp only [List.mem_cons, List.not_mem_nil, or_false] at ha
        rcases ha with rfl | rfl | rfl | rfl
        · exact ⟨_, q1, fun q => by simp at q, fun _ => ⟨⟨_, rfl⟩, by simp⟩⟩
        · exact ⟨_, q3, fun _ => .inl ⟨[u, v], _, rfl⟩, fun q => by simp at q⟩
        · exact ⟨o4, q4, fun q => by simp at q, fun _ => ⟨⟨_, q4''⟩, by rw [q4']; simp⟩⟩
        · exact ⟨o5, q5, fun q => by simp at q, fun _ => ⟨⟨_, q5''⟩, by rw [q5']; simp⟩⟩
      · intro i T h q a ha
        obtain ⟨q1, q2, ⟨u, v, q3⟩, ⟨⟨o4, q4, q4', q4''⟩, _⟩, ⟨⟨o5, q5, q5', q5''⟩, _⟩, _⟩ := q
        simp only [List.mem_cons, List.not_mem_nil, or_false] at ha
        rcases ha with rfl | rfl | rfl | rfl
        · exact ⟨_, q1, fun q => by simp at q, fun _ => ⟨⟨_, rfl⟩, by simp⟩⟩
        · exact ⟨_, q3, fun _ => .inl ⟨[u, v], _, rfl⟩, fun q => by simp at q⟩
        · exact ⟨o4, q4, fun q => by simp at q, fun _ => ⟨⟨_, q4''⟩, by rw [q4']; simp⟩⟩
        · exact ⟨o5, q5, fun q => by simp at q, fun _ => ⟨⟨_, q5''⟩, by rw [q5']; simp⟩⟩
      · intro c' i v p q φ h hv hp r1 r2
        rw [List.getElem?_zipWith] at hv
        obtain ⟨hp, hq⟩ := hp
        rw [List.getElem?_toArray] at hp hq
        obtain ⟨a, ha, ra⟩ := r1.get' hp
        obtain ⟨b, hb, rb⟩ := r2.get' hq
        rw [ha, hb] at hv
        cases hv
        exact ⟨a, b, rfl, ra, rb⟩
      · exact ⟨b1, b2, ⟨_, _, b3⟩, ⟨b4, (isList_of g1).at fun o e => b7 _ o e⟩, ⟨b5, (isList_of g2).at fun o e => b7 _ o e⟩⟩
    | _ => exact nosome e
  | str as =>
    obtain ⟨bs, hb, e⟩ := bindsome e
    obtain rfl := strV_some hb
    obtain ⟨hab, e⟩ := ifsome e
    obtain rfl := someq e
    rw [Bool.and_eq_true] at hab
    obtain ⟨t, rfl⟩ := ra
    obtain ⟨u, rfl⟩ := rb
    have ha' : (⟨as.toArray⟩ : Str).cps.all (· < 128) = true := by simpa [asc] using hab.1
    have hb' : (⟨bs.toArray⟩ : Str).cps.all (· < 128) = true := by simpa [asc] using hab.2
    refine call_zip_str ha' hb' fun h' b1 b2 b3 b4 b5 b7 => h _ h' ?_ b7 (fun {Q' E' s'} e q => wpAny_pyIter_zip (e ▸ b1) q)
    have D : ZApart (s.heap.objs.size + 4) (s.heap.objs.size + 2) (s.heap.objs.size + 3) s.heap.objs.size (s.heap.objs.size + 1) [s.heap.objs.size] [s.heap.objs.size + 1] := by
      constructor <;> (simp only [List.mem_cons, List.not_mem_nil, or_false, not_or, ne_eq]; first | (intro q; have q' : @Eq Nat _ _ := q; omega) | (constructor <;> (intro q; have q' : @Eq Nat _ _ := q; omega)))
    have W := walks_zip (A := A) (Draws.strAscii (prog := prog) (w := w) inA s.heap.objs.size ⟨as.toArray⟩ t) (Draws.strAscii (prog := prog) (w := w) inA (s.heap.objs.size + 1) ⟨bs.toArray⟩ u) D (by simp) (by simp)
    rw [show min (⟨as.toArray⟩ : Str).cps.size (⟨bs.toArray⟩ : Str).cps.size = (List.zipWith (fun x y => V.tup [x, y]) (chars as) (chars bs)).length by simp [chars]] at W
    refine source_X st b7 W (tg := [s.heap.objs.size + 3]) (its := []) (jts := []) (xs := []) (ys := []) ?_ ?_ ?_ ?_ ?_ ?_ .nil .nil ?_
    · intro a ha
      simp only [List.mem_cons, List.not_mem_nil, or_false] at ha
      rcases ha with rfl | rfl | rfl | rfl
      · exact ⟨hge _, _, b1⟩
      · exact ⟨hge _, _, b3⟩
      · exact ⟨hge 0, let ⟨o, e, _⟩ := b4; ⟨o, e⟩⟩
      · exact ⟨hge _, let ⟨o, e, _⟩ := b5; ⟨o, e⟩⟩
    · intro a ha
      rw [List.mem_singleton] at ha; subst ha
      exact ⟨by simp, _, b3, .inl ⟨[.none, .none], _, rfl⟩⟩
    · intro a ha
      simp only [List.mem_append, List.mem_cons, List.not_mem_nil, or_false] at ha
      rcases ha with (rfl | rfl | rfl) | rfl | rfl
      · exact .inl ⟨hge _, _, b1, fun ⟨v, q⟩ => by cases q⟩
      · exact .inl ⟨hge _, _, b2, fun ⟨v, q⟩ => by cases q⟩
      · exact .inl ⟨hge _, _, b3, fun ⟨v, q⟩ => by cases q⟩
      · exact .inl ⟨hge 0, let ⟨o, e, _, ed⟩ := b4; ⟨o, e, fun ⟨v, q⟩ => by rw [ed] at q; cases q⟩⟩
      · exact .inl ⟨hge _, let ⟨o, e, _, ed⟩ := b5; ⟨o, e, fun ⟨v, q⟩ => by rw [ed] at q; cases q⟩⟩
    · intro i h q a ha
      obtain ⟨q1, q2, ⟨u, v, q3⟩, ⟨o4, q4, q4', q4''⟩, ⟨o5, q5, q5', q5''⟩⟩ := q
      simp only [List.mem_cons, List.not_mem_nil, or_false] at ha
      rcases ha with rfl | rfl | rfl | rfl
      · exact ⟨_, q1, fun q => by simp at q, fun _ => ⟨⟨_, rfl⟩, by simp⟩⟩
      · exact ⟨_, q3, fun _ => .inl ⟨[u, v], _, rfl⟩, fun q => by simp at q⟩
      · exact ⟨o4, q4, fun q => by simp at q, fun _ => ⟨⟨_, q4''⟩, by rw [q4']; simp⟩⟩
      · exact ⟨o5, q5, fun q => by simp at q, fun _ => ⟨⟨_, q5''⟩, by rw [q5']; simp⟩⟩
    · intro i T h q a ha
      obtain ⟨q1, q2, ⟨u, v, q3⟩, ⟨o4, q4, q4', q4''⟩, ⟨o5, q5, q5', q5''⟩, _⟩ := q
      simp only [List.mem_cons, List.not_mem_nil, or_false] at ha
      rcases ha with rfl | rfl | rfl | rfl
      · exact ⟨_, q1, fun q => by simp at q, fun _ => ⟨⟨_, rfl⟩, by simp⟩⟩
      · exact ⟨_, q3, fun _ => .inl ⟨[u, v], _, rfl⟩, fun q => by simp at q⟩
      · exact ⟨o4, q4, fun q => by simp at q, fun _ => ⟨⟨_, q4''⟩, by rw [q4']; simp⟩⟩
      · exact ⟨o5, q5, fun q => by simp at q, fun _ => ⟨⟨_, q5''⟩, by rw [q5']; simp⟩⟩
    · intro c' i v p q φ h hv hp _ _
      rw [List.getElem?_zipWith] at hv
      obtain ⟨⟨k1, u1, hp, rfl⟩, ⟨k2, u2, hq, rfl⟩⟩ := hp
      rw [List.getElem?_toArray] at hp hq
      simp only [chars, List.getElem?_map, hp, hq, Option.map_some] at hv
      cases hv
      exact ⟨_, _, rfl, ⟨u1, rfl⟩, ⟨u2, rfl⟩⟩
    · exact ⟨b1, b2, ⟨_, _, b3⟩, b4, b5⟩
  | _ => exact nosome e

theorem source_enum {items : List V} {x : Value} {X1 X2 : V} {X : V} {Q : Value → Shared → Prop} {elts : List Expr} {kk : Nat} {tp : Pos} (hh : A.handled = none) (e : srcV .enum X1 X2 H = some items) (st : St c φ H L m s.heap) (ra : VRel c s.heap φ X1 x)
    (h : ∀ it h', Source c prog w A (.Tuple elts kk tp) L φ s.heap items X H it h' → KeepA s.heap h' → (∀ {Q' : Value → Shared → Prop} {E' : Value → Shared → Prop} {s' : Shared}, s'.heap = h' → Q' it s' → wpAny (model prog w) A (pyIter it) Q' E' s') → Q it { s with heap := h' }) :
    wpAny (model prog w) A (call (.type "enumerate") [x]) Q E s := by
  have hge : ∀ n, s.heap.get? (s.heap.objs.size + n) = none := fun n => get_none_of_le (Nat.le_add_right _ _)
  cases X1 <;> first | exact nosome e | skip
  rename_i as
  obtain rfl := someq e
  obtain ⟨l, xs, n1, rfl, g1, nf1, ng1, r1⟩ := ra
  have lt1 : @LT.lt Nat _ _ _ := Heap.lt_size g1
  refine call_enumerate_list (isList_of g1) fun h' b1 b2 b3 b7 => h _ h' ?_ b7 (fun {Q' E' s'} e q => wpAny_pyIter_enum (e ▸ b1) q)
  have W := walks_enum (prog := prog) (w := w) hh (s.heap.objs.size + 1) s.heap.objs.size l (Nat.succ_ne_self _) (Nat.ne_of_lt (Nat.lt_succ_of_lt lt1)) (Nat.ne_of_lt lt1) xs.toArray
  rw [show xs.toArray.size = (as.mapIdx fun i x => V.tup [.int (Int.ofNat i), x]).length by simp [r1.length]] at W
  refine source_X st b7 W (tg := []) (its := as) (jts := []) (xs := xs) (ys := []) ?_ ?_ ?_ ?_ ?_ ?_ r1 .nil ?_
  · intro a ha
    simp only [List.mem_cons, List.not_mem_nil, or_false] at ha
    rcases ha with rfl | rfl
    · exact ⟨hge _, _, b1⟩
    · exact ⟨hge 0, let ⟨o, e, _⟩ := b2; ⟨o, e⟩⟩
  · intro a ha; cases ha
  · intro a ha
    simp only [List.mem_cons, List.not_mem_nil, or_false] at ha
    rcases ha with rfl | rfl | rfl
    · exact .inl ⟨hge _, _, b1, fun ⟨v, q⟩ => by cases q⟩
    · exact .inl ⟨hge 0, let ⟨o, e, _, ed⟩ := b2; ⟨o, e, fun ⟨v, q⟩ => by rw [ed] at q; cases q⟩⟩
    · exact .inr ⟨nf1, ng1, _, g1, trivial⟩
  · intro i h q a ha
    obtain ⟨⟨old, q1⟩, ⟨o4, q4, q4', q4''⟩, _⟩ := q
    simp only [List.mem_cons, List.not_mem_nil, or_false] at ha
    rcases ha with rfl | rfl
    · exact ⟨_, q1, (fun q => by cases q), fun _ => ⟨⟨_, rfl⟩, by simp⟩⟩
    · exact ⟨o4, q4, (fun q => by cases q), fun _ => ⟨⟨_, q4''⟩, by rw [q4']; simp⟩⟩
  · intro i T h q a ha
    obtain ⟨⟨old, q1⟩, ⟨o4, q4, q4', q4''⟩, _⟩ := q
    simp only [List.mem_cons, List.not_mem_nil, or_false] at ha
    rcases ha with rfl | rfl
    · exact ⟨_, q1, (fun q => by cases q), fun _ => ⟨⟨_, rfl⟩, by simp⟩⟩
    · exact ⟨o4, q4, (fun q => by cases q), fun _ => ⟨⟨_, q4''⟩, by rw [q4']; simp⟩⟩
  · intro c' i v p q φ h hv hp r1 _
    obtain ⟨t, rfl, hp⟩ := hp
    rw [List.getElem?_toArray] at hp
    obtain ⟨a, ha, ra⟩ := r1.get' hp
    rw [List.getElem?_mapIdx, ha] at hv
    cases hv
    exact ⟨_, _, rfl, ⟨t, rfl⟩, ra⟩
  · exact ⟨⟨_, b1⟩, b2, (isList_of g1).at fun o e => b7 _ o e⟩
end
end Mine

-- M19
set_option autoImplicit false
set_option maxRecDepth 100000
namespace Mine
open PySem PySem.W PyProof.Rows

structure UpS (sc : Scope) (env : Env) (h : Heap) (φ : List Addr) (h' : Heap) (φ' : List Addr) : Prop where
  ext : ∃ ψ, φ' = φ ++ ψ ∧ ∀ a ∈ ψ, h.get? a = none
  keep : ∀ a o, h.get? a = some o → a ∉ φ → a ≠ env.locals → (∀ x, sc.names.lookup x = some .cell → env.cells.lookup x ≠ some a) → h'.get? a = some o

noncomputable def Own (c : Cx) (sc : Scope) (env : Env) : Prop := ∀ x a, sc.names.lookup x = some .cell → env.cells.lookup x = some a → c.h₀.get? a = none

section
variable {c : Cx} {N : List Str} {sc : Scope} {env : Env} {φ φ' φ'' : List Addr} {h h' h'' : Heap} {H H' : Hp} {m m' : Str → Option Value} {ρ ρ' : En}

theorem UpS.refl : UpS sc env h φ h φ := ⟨⟨[], by simp, by simp⟩, fun _ _ e _ _ _ => e⟩
theorem Up.toS (u : Up env.locals h φ h' φ') : UpS sc env h φ h' φ' := ⟨u.ext, fun a o e n l _ => u.keep a o e n l⟩
theorem UpS.toC (so : ScOk env sc) (er : ERel c N h φ env m ρ) (u : UpS sc env h φ h' φ') : UpC [] env.locals h φ h' φ' :=
  ⟨u.ext, fun a o e n l nc _ => u.keep a o e n l fun x hx hc => by
    obtain ⟨a', y, e1, o', e2, e3⟩ := er.has x (.inl (so.cel x hx))
    rw [hc] at e1; cases e1
    rw [e] at e2; cases e2
    exact nc ⟨_, e3⟩⟩
theorem UpS.trans (so : ScOk env sc) (x : UpS sc env h φ h' φ') (st' : St c φ' H env.locals m h') (er' : ERel c N h' φ' env m ρ) (y : UpS sc env h' φ' h'' φ'') : UpS sc env h φ h'' φ'' := by
  obtain ⟨ψ, rfl, h1⟩ := x.ext
  obtain ⟨ψ', rfl, h2⟩ := y.ext
  refine ⟨⟨ψ ++ ψ', by simp, fun a ha => ?_⟩, fun a o e hn hL nc => ?_⟩
  · rcases List.mem_append.mp ha with ha | ha
    · exact h1 a ha
    · cases q : h.get? a with
      | none => rfl
      | some o =>
        have alive : ∃ o', h'.get? a = some o' := by
          by_cases hm : a ∈ φ
          · obtain ⟨xs, n, e⟩ := st'.w.isL a (List.mem_append_left _ hm)
            exact ⟨_, e⟩
          · by_cases hL : a = env.locals
            · obtain ⟨o', _, _, e, _⟩ := st'.l.ns
              exact ⟨o', hL ▸ e⟩
            · by_cases nc : ∃ x, sc.names.lookup x = some .cell ∧ env.cells.lookup x = some a
              · obtain ⟨x, hx, hc⟩ := nc
                obtain ⟨a', y, e1, o', e2, _⟩ := er'.has x (.inl (so.cel x hx))
                rw [hc] at e1; cases e1
                exact ⟨o', e2⟩
              · exact ⟨o, x.keep a o q hm hL fun x hx hc => nc ⟨x, hx, hc⟩⟩
        obtain ⟨o', e⟩ := alive
        rw [h2 a ha] at e; cases e
  · refine y.keep a o (x.keep a o e hn hL nc) (fun hm => ?_) hL nc
    rcases List.mem_append.mp hm with hm | hm
    · exact hn hm
    · rw [h1 a hm] at e; cases e

theorem VRel.upS (so : ScOk env sc) (st : St c φ H env.locals m h) (er : ERel c N h φ env m ρ) (u : UpS sc env h φ h' φ') {v : V} {x : Value} (r : VRel c h φ v x) : VRel c h' φ' v x := r.upC st.w st.l (by simp) (u.toC so er)

theorem getE_set {ρ : En} {x y : Nat} {v w : V} (e : getE (ρ.set x (some v)) y = some w) : (y = x ∧ w = v) ∨ (y ≠ x ∧ getE ρ y = some w) := by
  unfold getE at e ⊢
  by_cases h : y = x
  · subst h
    rw [List.getElem?_set_self'] at e
    cases q : ρ[y]? with
    | none => rw [q] at e; simp at e
    | some o => rw [q] at e; simp at e; exact .inl ⟨rfl, e.symm⟩
  · rw [List.getElem?_set_ne (Ne.symm h)] at e
    exact .inr ⟨h, e⟩
theorem nodup_at (nd : N.Nodup) {x y : Nat} {id : Str} (hx : N[x]? = some id) (hy : N[y]? = some id) : x = y := by
  obtain ⟨a, ha⟩ := List.getElem?_eq_some_iff.mp hx
  obtain ⟨b, hb⟩ := List.getElem?_eq_some_iff.mp hy
  exact (List.getElem_inj nd).mp (ha.trans hb.symm)

variable {prog : Program} {w : World} {A : Around} {E : Value → Shared → Prop} {s : Shared}

noncomputable def PostN (c : Cx) (N : List Str) (sc : Scope) (env : Env) (φ : List Addr) (H : Hp) (s : Shared) (ρ : En) (Q : Unit → Shared → Prop) : Prop :=
  ∀ h' tk m', UpS sc env s.heap φ h' φ → St c φ H env.locals m' h' → ERel c N h' φ env m' ρ → Q () (sht s h' tk)

theorem store_ok {x : Nat} {id : Str} {v : V} {val : Value} {Q : Unit → Shared → Prop} (so : ScOk env sc) (ow : Own c sc env) (st : St c φ H env.locals m s.heap) (er : ERel c N s.heap φ env m ρ) (hN : N[x]? = some id)
    (hk : sc.names.lookup id = some .local ∨ sc.names.lookup id = some .cell) (hne : id ≠ hkey) (rv : VRel c s.heap φ v val) (h : PostN c N sc env φ H s (ρ.set x (some v)) Q) : wpAny (model prog w) A (storeName env id val) Q E s := by
  rcases hk with hk | hk
  · have hk' := so.loc _ hk
    refine wpAny_storeName_local hk' st.l.ns (fun h' hn' hs' => ?_) (by rw [er.fn]; rfl)
    have kk : KeepL env.locals s.heap h' := fun a o e n => (hs'.2 a n).trans e
    have uu : Up env.locals s.heap φ h' φ := .of_keepL kk
    have nk : (fun x => if x = id then some val else m x) hkey = none := by
      show (if hkey = id then some val else m hkey) = none
      rw [if_neg (Ne.symm hne)]; exact st.l.nk
    refine h h' _ _ uu.toS ⟨st.w.keepL st.l kk, hn', nk, st.l.above⟩ ⟨er.nd, er.fn, er.gl, er.bi, fun i u id' e n k => ?_, fun i u id' e n k => ?_, fun i k => ?_, er.dis⟩
    · rcases getE_set e with ⟨rfl, rfl⟩ | ⟨hi, e⟩
      · rw [hN] at n; cases n
        exact ⟨val, if_pos rfl, rv.keepL st.w st.l kk⟩
      · obtain ⟨y, h1, h2⟩ := er.loc i u id' e n k
        exact ⟨y, by show (if id' = id then some val else m id') = some y; rw [if_neg (fun q : id' = id => hi (nodup_at er.nd (q ▸ n) hN))]; exact h1, h2.keepL st.w st.l kk⟩
    · rcases getE_set e with ⟨rfl, rfl⟩ | ⟨hi, e⟩
      · rw [hN] at n; cases n
        rcases k with k | k <;> (rw [hk'] at k; cases k)
      · obtain ⟨a, y, h1, h2, h3⟩ := er.cel i u id' e n k
        exact ⟨a, y, h1, cellKeep st uu h2, h3.keepL st.w st.l kk⟩
    · obtain ⟨a, y, h1, h2⟩ := er.has i k
      exact ⟨a, y, h1, cellKeep st uu h2⟩
  · have hk' := so.cel _ hk
    obtain ⟨a, y0, hc, hcell⟩ := er.has id (.inl hk')
    have hcell' := hcell
    obtain ⟨oc, ec, dc⟩ := hcell'
    refine wpAny_storeName_cell er.fn hk' hc hcell fun h' hc' hs' => ?_
    have ncell : ∀ o, s.heap.get? a = some o → o = oc := fun o e => by rw [e] at ec; cases ec; rfl
    have nd : ∀ o, s.heap.get? a = some o → ¬ Dur o := fun o e d => by
      have := ncell o e
      subst this
      exact d.notCell ⟨_, dc⟩
    have aL : a ≠ env.locals := fun q => by
      obtain ⟨o', es, ep, e', h2, _⟩ := st.l.ns
      rw [q, e'] at ec; cases ec
      rw [h2] at dc; cases dc
    have kk : ∀ b o, s.heap.get? b = some o → b ≠ a → h'.get? b = some o := fun b o e n => (hs'.2 b n).trans e
    have kd : ∀ b o, s.heap.get? b = some o → b ∉ φ → b ∉ c.gh → Dur o → h'.get? b = some o := fun b o e _ _ d => kk b o e fun q => nd o (q ▸ e) d
    have vr : ∀ {v : V} {x : Value}, VRel c s.heap φ v x → VRel c h' φ v x := fun r => r.mono kd st.w.isL st.w.gh ⟨[], by simp, by simp⟩
    have vrs : ∀ {v : List V} {x : List Value}, VRels c s.heap φ v x → VRels c h' φ v x := fun r => r.mono kd st.w.isL st.w.gh ⟨[], by simp, by simp⟩
    have st' : St c φ H env.locals m h' := by
      refine ⟨⟨fun b hb => ?_, fun b o e => kk b o (st.w.stays b o e) (fun q => by rw [q, ow id a hk hc] at e; cases e), st.w.fresh, st.w.nodup, st.w.len, fun n l e => ?_⟩, st.l.ns.at' fun o e => kk _ o e (Ne.symm aL), st.l.nk, st.l.above⟩
      · obtain ⟨h1, h2, o, e, q⟩ := st.w.ghs b hb
        exact ⟨h1, h2, o, kk b o e fun q' => nd o (q' ▸ e) q.dur, q⟩
      · obtain ⟨b, xs, k, h1, h2, h3⟩ := st.w.cells n l e
        exact ⟨b, xs, k, h1, kk b _ h2 fun q' => nd (lobj xs k) (q' ▸ h2) trivial, vrs h3⟩
    refine h h' _ m ⟨⟨[], by simp, by simp⟩, fun b o e _ _ nc => kk b o e fun q => nc id hk (q ▸ hc)⟩ st' ⟨er.nd, er.fn, er.gl, er.bi, fun i u id' e n k => ?_, fun i u id' e n k => ?_, fun i k => ?_, er.dis⟩
    · rcases getE_set e with ⟨rfl, rfl⟩ | ⟨hi, e⟩
      · rw [hN] at n; cases n
        rw [hk'] at k; cases k
      · obtain ⟨y, h1, h2⟩ := er.loc i u id' e n k
        exact ⟨y, h1, vr h2⟩
    · rcases getE_set e with ⟨rfl, rfl⟩ | ⟨hi, e⟩
      · rw [hN] at n; cases n
        exact ⟨a, val, hc, hc', vr rv⟩
      · obtain ⟨a', y, h1, h2, h3⟩ := er.cel i u id' e n k
        obtain ⟨o', e2, e3⟩ := h2
        refine ⟨a', y, h1, ⟨o', kk _ _ e2 fun q => ?_, e3⟩, vr h3⟩
        have := er.dis id' id a (q ▸ h1) hc
        exact hi (nodup_at er.nd (this ▸ n) hN)
    · obtain ⟨a', y, h1, h2⟩ := er.has i k
      by_cases q : a' = a
      · subst q; exact ⟨a', _, h1, hc'⟩
      · obtain ⟨o', e2, e3⟩ := h2
        exact ⟨a', y, h1, o', kk _ _ e2 q, e3⟩

theorem bind_two {x y : Nat} {v : V} {ρ ρ' : En} (hb : bindT (.two x y) v ρ = some ρ') : ∃ a b, v = .tup [a, b] ∧ ρ' = (ρ.set x (some a)).set y (some b) :=
  bd_elim hb fun p h e => ⟨p.1, p.2, prV_some h, (someq e).symm⟩
theorem target_ok {t : Tgt} {tx : Expr} {v : V} {val : Value} {Q : Unit → Shared → Prop} (hm : MT N t sc tx) (hh : A.handled = none) (so : ScOk env sc) (ow : Own c sc env) (st : St c φ H env.locals m s.heap) (er : ERel c N s.heap φ env m ρ)
    (rv : VRel c s.heap φ v val) (hb : bindT t v ρ = some ρ') (h : PostN c N sc env φ H s ρ' Q) : wpAny (model prog w) A (assign tx env val) Q E s := by
  cases hm with
  | one hN hk hne =>
    obtain rfl := someq hb
    exact wpAny_assign_Name (store_ok so ow st er hN hk hne rv h)
  | two hN hk hne hN' hk' hne' =>
    rename_i x y i1 i2 p1 p2 kk tp
    obtain ⟨a, b, rfl, rfl⟩ := bind_two hb
    obtain ⟨T, xs, n, rfl, h1, _, r⟩ := rv
    obtain ⟨p, xs, rfl, ra, r⟩ := r
    obtain ⟨q, xs, rfl, rb, r⟩ := r
    cases r
    refine wpAny_assign_Tuple hh (isTup_of h1) rfl rfl fun h₁ he₁ => ?_
    have kk : KeepA s.heap h₁ := fun b o e => he₁ b o (Nat.ne_of_lt (Heap.lt_size e)) e
    have st1 : St c φ H env.locals m h₁ := st.ext kk
    have uu : Up env.locals s.heap φ h₁ φ := .of_keepL (.of kk)
    have er1 := er.up st uu
    show wpAny _ _ (assignInOrder [assign (.Name _ _) env, assign (.Name _ _) env] [p, q]) _ _ _
    refine assignInOrder_cons (wpAny_assign_Name (store_ok so ow st1 er1 hN hk hne (ra.keepL st.w st.l (.of kk)) fun h2 t2 m2 u2 st2 er2 => ?_))
    refine assignInOrder_cons (wpAny_assign_Name (store_ok so ow st2 er2 hN' hk' hne' ((rb.keepL st.w st.l (.of kk)).upS so st1 er1 u2) fun h3 t3 m3 u3 st3 er3 => assignInOrder_nil ?_))
    exact h h3 t3 m3 ((uu.toS.trans so st1 er1 u2).trans so st2 er2 u3) st3 er3
end
end Mine

-- M20
set_option autoImplicit false
set_option maxRecDepth 100000
namespace Mine
open PySem PySem.W PyProof.Rows

theorem cf_append : ∀ (names : List (Str × NameKind)) (n : Nat) (acc : List (Str × Addr)), cellsFrom n names acc = cellsFrom n names [] ++ acc
  | [], n, acc => rfl
  | (x, k) :: r, n, acc => by
    unfold cellsFrom
    split
    · rw [cf_append r _ ((x, n) :: acc), cf_append r _ [(x, n)]]; simp
    · exact cf_append r n acc
theorem cf_mem : ∀ {names : List (Str × NameKind)} {n : Nat} {x : Str}, x ∈ (cellsFrom n names []).map (·.1) ↔ (x, NameKind.cell) ∈ names
  | [], n, x => by simp [cellsFrom]
  | (y, k) :: r, n, x => by
    unfold cellsFrom
    split
    · rename_i hk
      have hk : k = .cell := by simpa using hk
      subst hk
      rw [cf_append, List.map_append, List.mem_append, cf_mem, List.mem_cons]
      simp only [List.map_cons, List.map_nil, List.mem_singleton, Prod.mk.injEq, and_true]
      exact Or.comm
    · rename_i hk
      rw [cf_mem, List.mem_cons]
      have : (x, NameKind.cell) ≠ (y, k) := fun q => hk (by cases q; rfl)
      simp [this]
theorem lookup_some_mem {α : Type} {l : List (Str × α)} {x : Str} (h : x ∈ l.map (·.1)) : ∃ a, l.lookup x = some a := by
  induction l with
  | nil => simp at h
  | cons p l ih =>
    obtain ⟨y, b⟩ := p
    rw [List.lookup_cons]
    cases hb : x == y with
    | true => exact ⟨b, rfl⟩
    | false =>
      refine ih ?_
      rcases List.mem_cons.mp h with q | q
      · exact absurd q (by simpa using hb)
      · exact q
theorem lookup_none_mem {α : Type} {l : List (Str × α)} {x : Str} (h : x ∉ l.map (·.1)) : l.lookup x = none := by
  cases q : l.lookup x with
  | none => rfl
  | some a => exact absurd (List.mem_map.mpr ⟨_, mem_of_lookup q, rfl⟩) h
theorem lookup_of_mem {α : Type} : ∀ {l : List (Str × α)} {x : Str} {a : α}, (l.map (·.1)).Nodup → (x, a) ∈ l → l.lookup x = some a
  | p :: l, x, a, nd, h => by
    obtain ⟨y, b⟩ := p
    rw [List.map_cons, List.nodup_cons] at nd
    rw [List.lookup_cons]
    rcases List.mem_cons.mp h with q | q
    · cases q; simp
    · have : x ≠ y := fun e => nd.1 (e ▸ List.mem_map.mpr ⟨_, q, rfl⟩)
      rw [beq_eq_false_iff_ne.mpr this]
      exact lookup_of_mem nd.2 q

noncomputable def clFrom (cells : List (Str × Addr)) : List (Str × NameKind) → List (Str × Addr) → List (Str × Addr)
  | [], acc => acc
  | (x, k) :: r, acc => if k == .free then clFrom cells r ((x, (cells.lookup x).getD 0) :: acc) else clFrom cells r acc
theorem clFrom_lookup {cells : List (Str × Addr)} : ∀ {names : List (Str × NameKind)} {acc : List (Str × Addr)} {x : Str}, (names.map (·.1)).Nodup → (∀ y, (y, NameKind.free) ∈ names → ∃ a, cells.lookup y = some a) →
    (clFrom cells names acc).lookup x = if (x, NameKind.free) ∈ names then cells.lookup x else acc.lookup x
  | [], acc, x, _, _ => by simp [clFrom]
  | (y, k) :: r, acc, x, nd, hf => by
    rw [List.map_cons, List.nodup_cons] at nd
    have ih := fun acc => clFrom_lookup (acc := acc) (x := x) nd.2 (fun z hz => hf z (.tail _ hz))
    unfold clFrom
    split
    · rename_i hk
      have hk : k = .free := by simpa using hk
      subst hk
      rw [ih]
      by_cases hxy : x = y
      · subst hxy
        have hn : (x, NameKind.free) ∉ r := fun q => nd.1 (List.mem_map.mpr ⟨_, q, rfl⟩)
        rw [if_neg hn, if_pos List.mem_cons_self]
        obtain ⟨a, ha⟩ := hf x List.mem_cons_self
        simp [ha]
      · have : (x, NameKind.free) ∈ (y, NameKind.free) :: r ↔ (x, NameKind.free) ∈ r := by simp [hxy]
        rw [List.lookup_cons, beq_eq_false_iff_ne.mpr hxy]
        simp only [this]
    · rename_i hk
      rw [ih]
      have : (x, NameKind.free) ∈ (y, k) :: r ↔ (x, NameKind.free) ∈ r := by
        rw [List.mem_cons]
        exact ⟨fun q => q.resolve_left fun q => hk (by cases q; rfl), .inr⟩
      simp only [this]
theorem closure_ok {scope : Scope} {env : Env} (hf : ∀ y, (y, NameKind.free) ∈ scope.names → ∃ a, env.cells.lookup y = some a) : closureFor scope env = pure (clFrom env.cells scope.names []) := by
  have key : ∀ (names : List (Str × NameKind)) (acc : List (Str × Addr)), (∀ y, (y, NameKind.free) ∈ names → ∃ a, env.cells.lookup y = some a) →
      forIn names acc (fun (x : Str × NameKind) (cs : List (Str × Addr)) => if (x.2 == NameKind.free) = true then (do let a ← cellOf env x.1; pure (ForInStep.yield ((x.1, a) :: cs))) else (pure (ForInStep.yield cs) : Sem (ForInStep (List (Str × Addr))))) = (pure (clFrom env.cells names acc) : Sem (List (Str × Addr))) := by
    intro names
    induction names with
    | nil => intro acc _; rw [List.forIn_nil]; rfl
    | cons p r ih =>
      intro acc hf
      obtain ⟨y, k⟩ := p
      rw [List.forIn_cons]
      unfold clFrom
      by_cases hk : (k == NameKind.free) = true
      · have hk' : k = .free := by simpa using hk
        subst hk'
        obtain ⟨a, ha⟩ := hf y List.mem_cons_self
        simp only [cellOf, ha, if_true, beq_self_eq_true, pure_bind, Option.getD_some]
        exact ih _ fun z hz => hf z (.tail _ hz)
      · simp only [hk, if_false, pure_bind]
        exact ih _ fun z hz => hf z (.tail _ hz)
  unfold closureFor
  have := key scope.names [] hf
  simp only [bind_pure] at this ⊢
  exact this

theorem relabel_lookup {scope : Scope} {env : Env} (x : Str) : (relabel scope env).names.lookup x = (scope.names.lookup x).map fun k => if (k == NameKind.free && env.scope.kind == .function && env.kindOf x == some .cell) = true then .cell else k := by
  unfold relabel
  show List.lookup x (scope.names.map _) = _
  generalize scope.names = l
  induction l with
  | nil => rfl
  | cons p l ih =>
    obtain ⟨y, k⟩ := p
    rw [List.map_cons]
    by_cases hxy : x = y
    · subst hxy
      dsimp only
      split
      · rename_i q
        rw [List.lookup_cons, List.lookup_cons]; simp only [beq_self_eq_true, Option.map_some]; rw [if_pos q]
      · rename_i q
        rw [List.lookup_cons, List.lookup_cons]; simp only [beq_self_eq_true, Option.map_some]; rw [if_neg q]
    · have e := beq_eq_false_iff_ne.mpr hxy
      dsimp only
      split <;> (rw [List.lookup_cons, List.lookup_cons, e]; exact ih)

section
variable {M : Model} {A : Around} {E : Value → Shared → Prop} {s : Shared}
theorem newEnv_ok {scope : Scope} {globals : Addr} {cl : List (Str × Addr)} {qual : Str} {env : Env} {Q : Env → Shared → Prop}
    (h : ∀ (h' : Heap) (new : List (Str × Addr)), h'.Ns s.heap.objs.size (fun _ => none) → KeepA s.heap h' → (∀ x, x ∈ new.map (·.1) ↔ (x, NameKind.cell) ∈ scope.names) → (∀ x a, (x, a) ∈ new → h'.IsCell a none ∧ s.heap.objs.size + 1 ≤ a) →
      (new.Pairwise fun x y => x.2 ≠ y.2) → Q { scope := scope, locals := s.heap.objs.size, globals := globals, cells := new ++ cl, qual := qual, func := none, code := env.code, frame := env.frame, builtins := env.builtins } { s with heap := h' }) :
    wpAny M A (newFunctionEnv scope globals cl [] qual none .none (some env)) Q E s := by
  simp only [newFunctionEnv, Option.isSome_some, if_true]
  refine wpAny_bind (wpAny_alloc ?_)
  refine wpAny_bind (wpAny_layCells _ (fun name kind cells => by cases hkc : kind == NameKind.cell <;> simp [hkc]) _ _ _ _ ?_)
  have ok := cellsFrom_ok scope.names (s.heap.push { cls := .type "dict", data := .dict #[] }) (s.heap.objs.size + 1) [] ⟨fun _ _ hm => (nomatch hm), List.Pairwise.nil⟩ (by rw [Heap.size_push]; exact Nat.le_refl _)
  rw [Heap.size_push] at ok
  rw [show ({ s with heap := s.heap.push { cls := .type "dict", data := .dict #[] } } : Shared).heap.objs.size = s.heap.objs.size + 1 from Heap.size_push ..]
  rw [cf_append]
  refine wpAny_bind ?_
  rw [List.forIn_nil]
  refine wpAny_pure (wpAny_pure (h _ _ ((Heap.Ns.new s.heap (.type "dict")).keeps (pushCells_keeps _ _)) (fun b o e => pushCells_keeps _ _ b o (Heap.get?_push_of_some _ e)) (fun x => cf_mem) (fun x a hm => ok.empty x a hm) ok.apart))
end
end Mine

-- M21
set_option autoImplicit false
set_option maxRecDepth 100000
namespace Mine
open PySem PySem.W PyProof.Rows

theorem getE_clear {cl : List Nat} : ∀ {ρ : En} {x : Nat} {v : V}, getE (clearE cl ρ) x = some v → getE ρ x = some v ∧ x ∉ cl := by
  unfold clearE
  induction cl with
  | nil => intro ρ x v h; exact ⟨h, by simp⟩
  | cons y cl ih =>
    intro ρ x v h
    rw [List.foldl_cons] at h
    obtain ⟨h1, h2⟩ := ih h
    have : getE ρ x = some v ∧ x ≠ y := by
      unfold getE at h1 ⊢
      by_cases q : x = y
      · subst q
        rw [List.getElem?_set_self'] at h1
        cases e : ρ[x]? <;> (rw [e] at h1; simp at h1)
      · rw [List.getElem?_set_ne (Ne.symm q)] at h1
        exact ⟨h1, q⟩
    exact ⟨this.1, by simp [this.2, h2]⟩

section
variable {c : Cx} {N : List Str} {sc sc2 : Scope} {env : Env} {cls : List Nat} {φ : List Addr} {hp h' : Heap} {H : Hp} {m : Str → Option Value} {ρ : En} {G : List Addr}

theorem CScope.freeIn (cs : CScope N sc sc2 cls) {y : Str} (hy : (y, NameKind.free) ∈ sc2.names) : sc.names.lookup y = some .cell ∨ sc.names.lookup y = some .free := by
  have := List.all_eq_true.mp cs.free _ hy
  simpa using this
theorem CScope.bound (cs : CScope N sc sc2 cls) {i : Nat} {id : Str} (hi : N[i]? = some id) (hk : sc2.names.lookup id = some .local ∨ sc2.names.lookup id = some .cell) : i ∈ cls := by
  have h1 := List.all_eq_true.mp cs.cl i (List.mem_range.mpr (List.getElem?_eq_some_iff.mp hi).1)
  rw [hi] at h1
  rcases hk with hk | hk <;> simpa [hk] using h1

theorem cenv_ok (so : ScOk env sc) (st : St c φ H env.locals m hp) (er : ERel c N hp φ env m ρ) (cs : CScope N sc sc2 cls) (k : KeepA hp h') (hg : ∀ a ∈ G, a ∈ c.gh ∨ hp.get? a = none) {h1 : Heap} {new : List (Str × Addr)} (kk : KeepA hp h1)
    (ns : h'.Ns h1.objs.size (fun _ => none)) (hnew : ∀ x, x ∈ new.map (·.1) ↔ (x, NameKind.cell) ∈ sc2.names) (hcell : ∀ x a, (x, a) ∈ new → h'.IsCell a none ∧ h1.objs.size + 1 ≤ a) (hap : new.Pairwise fun x y => x.2 ≠ y.2)
    {cenv : Env} (hce : cenv = { scope := relabel sc2 env, locals := h1.objs.size, globals := env.globals, cells := new ++ clFrom env.cells sc2.names [], qual := env.qual, func := none, code := env.code, frame := env.frame, builtins := env.builtins }) :
    ScOk cenv sc2 ∧ Own c sc2 cenv ∧ ERel (c.wg G) N h' φ cenv (fun _ => none) (clearE cls ρ) ∧ (∀ x a, sc2.names.lookup x = some .cell → cenv.cells.lookup x = some a → hp.get? a = none) ∧ hp.get? cenv.locals = none := by
  have kind : ∀ x, cenv.kindOf x = (sc2.names.lookup x).map fun k => if (k == NameKind.free && env.scope.kind == .function && env.kindOf x == some .cell) = true then .cell else k := fun x => by
    rw [hce]; exact relabel_lookup x
  have cells : cenv.cells = new ++ clFrom env.cells sc2.names [] := by rw [hce]
  have free : ∀ y, (y, NameKind.free) ∈ sc2.names → ∃ a, env.cells.lookup y = some a := fun y hy => by
    obtain ⟨a, _, e, _⟩ := er.has y (by
      rcases cs.freeIn hy with q | q
      · exact .inl (so.cel y q)
      · exact (so.fre y q).symm)
    exact ⟨a, e⟩
  have lkn : ∀ x, (x, NameKind.cell) ∉ sc2.names → new.lookup x = none := fun x hx => lookup_none_mem fun q => hx ((hnew x).mp q)
  have lkc : ∀ x, (x, NameKind.cell) ∈ sc2.names → ∃ a, cenv.cells.lookup x = some a ∧ (x, a) ∈ new := fun x hx => by
    obtain ⟨a, ha⟩ := lookup_some_mem ((hnew x).mpr hx)
    exact ⟨a, by rw [cells, List.lookup_append, ha]; rfl, mem_of_lookup ha⟩
  have ne : ∀ {x : Str} {k k' : NameKind}, (x, k) ∈ sc2.names → (x, k') ∈ sc2.names → k = k' := fun {x k k'} h1 h2 => by
    have a := lookup_of_mem cs.nd h1
    have b := lookup_of_mem cs.nd h2
    rw [a] at b; exact Option.some.inj b
  have lkf : ∀ x, (x, NameKind.free) ∈ sc2.names → cenv.cells.lookup x = env.cells.lookup x := fun x hx => by
    have hn : (x, NameKind.cell) ∉ sc2.names := fun q => by cases ne hx q
    rw [cells, List.lookup_append, lkn x hn, clFrom_lookup cs.nd free, if_pos hx]; exact Option.none_or
  have lk0 : ∀ x a, cenv.cells.lookup x = some a → (x, NameKind.cell) ∈ sc2.names ∨ (x, NameKind.free) ∈ sc2.names := fun x a e => by
    by_cases q : (x, NameKind.cell) ∈ sc2.names
    · exact .inl q
    · rw [cells, List.lookup_append, lkn x q, clFrom_lookup cs.nd free] at e
      by_cases q' : (x, NameKind.free) ∈ sc2.names
      · exact .inr q'
      · rw [if_neg q'] at e; cases e
  have big : ∀ {a : Addr}, h1.objs.size ≤ a → hp.get? a = none := fun {a} ha => by
    cases q : hp.get? a with
    | none => rfl
    | some o => exact absurd (Heap.lt_size (kk a o q)) (Nat.not_lt.mpr ha)
  have newbig : ∀ {x : Str} {a : Addr}, (x, a) ∈ new → hp.get? a = none := fun {x a} q => big (Nat.le_of_succ_le (hcell x a q).2)
  have oldFree : ∀ {x : Str}, (x, NameKind.free) ∈ sc2.names → ∃ a y, env.cells.lookup x = some a ∧ hp.IsCell a y := fun {x} hx => er.has x (by
    rcases cs.freeIn hx with q | q
    · exact .inl (so.cel x q)
    · exact (so.fre x q).symm)
  have keepC : ∀ {a : Addr} {y : Option Value}, hp.IsCell a y → h'.IsCell a y := fun {a y} ⟨o, e, d⟩ => ⟨o, k a o e, d⟩
  have memk : ∀ {x : Str}, cenv.kindOf x = some .cell ∨ cenv.kindOf x = some .free → (x, NameKind.cell) ∈ sc2.names ∨ (x, NameKind.free) ∈ sc2.names := fun {x} hx => by
    rw [kind] at hx
    cases q : sc2.names.lookup x with
    | none => rw [q] at hx; simp at hx
    | some kd =>
      have hm := mem_of_lookup q
      cases kd with
      | cell => exact .inl hm
      | free => exact .inr hm
      | _ => rw [q] at hx; simp at hx
  refine ⟨⟨fun x h => by rw [kind, h]; rfl, fun x h => by rw [kind, h]; rfl, fun x h => ?_, fun x h => by rw [kind, h]; rfl⟩, fun x a hx hc => ?_, ⟨er.nd, ?_, ?_, ?_, ?_, ?_, ?_, ?_⟩, fun x a hx hc => ?_, ?_⟩
  · rw [kind, h]
    simp only [Option.map_some]
    split
    · exact .inr rfl
    · exact .inl rfl
  · obtain ⟨a', e, hm⟩ := lkc x (mem_of_lookup hx)
    rw [e] at hc; cases hc
    exact st.w.none0 (newbig hm)
  · rw [hce]; exact cs.kind
  · rw [hce]; exact er.gl
  · rw [hce]; exact er.bi
  · intro x v id e n hk
    obtain ⟨_, hx⟩ := getE_clear e
    exfalso
    rw [kind] at hk
    cases q : sc2.names.lookup id with
    | none => rw [q] at hk; simp at hk
    | some kd =>
      have : kd = .local := by
        rw [q] at hk
        simp only [Option.map_some, Option.some.injEq] at hk
        split at hk
        · cases hk
        · exact hk
      subst this
      exact hx (cs.bound n (.inl q))
  · intro x v id e n hk
    obtain ⟨e', hx⟩ := getE_clear e
    rcases memk hk with q | q
    · exact absurd (cs.bound n (.inr (lookup_of_mem cs.nd q))) hx
    · obtain ⟨a, y, h1, h2, h3⟩ := er.cel x v id e' n (by
        rcases cs.freeIn q with q | q
        · exact .inl (so.cel _ q)
        · exact (so.fre _ q).symm)
      exact ⟨a, y, (lkf id q).trans h1, keepC h2, h3.grow st k hg⟩
  · intro x hk
    rcases memk hk with q | q
    · obtain ⟨a, e, hm⟩ := lkc x q
      exact ⟨a, none, e, (hcell x a hm).1⟩
    · obtain ⟨a, y, e, h2⟩ := oldFree q
      exact ⟨a, y, (lkf x q).trans e, keepC h2⟩
  · intro x y a hx hy
    have cas : ∀ {z : Str}, cenv.cells.lookup z = some a → ((z, a) ∈ new) ∨ ((z, NameKind.free) ∈ sc2.names ∧ env.cells.lookup z = some a ∧ ∃ o, hp.get? a = some o) := fun {z} hz => by
      rcases lk0 z a hz with q | q
      · obtain ⟨a', e, hm⟩ := lkc z q
        rw [e] at hz; cases hz
        exact .inl hm
      · rw [lkf z q] at hz
        obtain ⟨a', y, e, o, e2, _⟩ := oldFree q
        rw [hz] at e; cases e
        exact .inr ⟨q, hz, o, e2⟩
    rcases cas hx with p | ⟨_, p, o, po⟩ <;> rcases cas hy with q | ⟨_, q, o', qo⟩
    · exact name_of_addr hap p q
    · rw [newbig p] at qo; cases qo
    · rw [newbig q] at po; cases po
    · exact er.dis x y a p q
  · obtain ⟨a', e, hm⟩ := lkc x (mem_of_lookup hx)
    rw [e] at hc; cases hc
    exact newbig hm
  · rw [hce]; exact big (Nat.le_refl _)
end
end Mine

-- M22
set_option autoImplicit false
set_option maxRecDepth 100000
namespace Mine
open PySem PySem.W PyProof.Rows

section
variable {prog : Program} {w : World} {A : Around} {E : Value → Shared → Prop} {R : Result → Shared → Prop} {s : Shared}
noncomputable def compGen (e target iter : Expr) (ifs : List Expr) (depth : Nat) (it acc : Value) (env : Env) (emit : Sem Unit) : Sem Fin := do
  standAt iter.pos
  match ← pyNext it with
  | none => pure (.done .next)
  | some v =>
    letOwnedTupleGo target it v
    assign target env v
    let mut ok := true
    for c in ifs do
      if ok then ok ← isTrue c env (eval c env)
    if ok then emit
    again (.compLoop e depth it acc env)

theorem compLoop_go {elt target iter : Expr} {ifs : List Expr} {gens : List Comprehension} {scope : Scope} {pos : Pos} {depth : Nat} {it acc : Value} {env : Env} {emit : Sem Unit} (ht : compTurn (.ListComp elt gens scope pos) depth it acc env = compGen (.ListComp elt gens scope pos) target iter ifs depth it acc env emit) (I : Nat → Shared → Prop)
    (turn : ∀ (E' : Value → Shared → Prop) n s, I n s → wpAny (model prog w) A (pyNext it) (fun r s₁ => match r with
      | none => R (.ok .next) s₁
      | some v => wpAny (model prog w) A (letOwnedTupleGo target it v) (fun _ s₁' => wpAny (model prog w) A (assign target env v) (fun _ s₂ =>
          wpAny (model prog w) A (forIn ifs true fun c r => if r = true then do let ok ← isTrue c env (eval c env); pure (ForInStep.yield ok) else pure (ForInStep.yield r)) (fun ok s₃ =>
            if ok = true then wpAny (model prog w) A emit (fun _ s₅ => ∃ m, m < n ∧ I m s₅) E' s₃
            else ∃ m, m < n ∧ I m s₃) E' s₂) E' s₁') E' s₁) E' s)
    (n : Nat) (h : I n s) : codeAny (model prog w) A (.compLoop (.ListComp elt gens scope pos) depth it acc env) R s := by
  refine codeAny_loop rfl I (fun n s hI => ?_) n h
  show wpAny _ A ((compTurn (.ListComp elt gens scope pos) depth it acc env).onRaise (fun x => do noteFrame x env; theTreesLotGoes x)) _ _ s
  refine wpAny_noted ?_
  rw [ht]
  refine wpAny_bind (wpAny_standAt (wpAny_bind (wpAny_mono (turn _ n s hI) (fun r s₁ h₁ => ?_) fun _ _ h' => h')))
  cases r with
  | none => exact wpAny_pure h₁
  | some v =>
    refine wpAny_bind (wpAny_mono h₁ (fun _ s₁' h₁' => ?_) fun _ _ h' => h')
    refine wpAny_bind (wpAny_mono h₁' (fun _ s₂ h₂ => wpAny_bind (wpAny_mono h₂ (fun ok s₃ h₃ => ?_) fun _ _ h' => h')) fun _ _ h' => h')
    cases ok with
    | false => exact wpAny_pure ⟨rfl, h₃⟩
    | true => exact wpAny_bind (wpAny_mono h₃ (fun _ s₅ h₅ => wpAny_pure ⟨rfl, h₅⟩) fun _ _ h' => h')
end

section
variable {c : Cx} {N : List Str} {sc : Scope} {env : Env} {φ φ' φ1 φ2 : List Addr} {hp h h' : Heap} {H H1 : Hp} {m : Str → Option Value} {ρ ρ' : En}

theorem ERel.weaken (er : ERel c N h φ env m ρ') (hle : ∀ x v, getE ρ x = some v → getE ρ' x = some v) : ERel c N h φ env m ρ :=
  ⟨er.nd, er.fn, er.gl, er.bi, fun x v id e => er.loc x v id (hle x v e), fun x v id e => er.cel x v id (hle x v e), er.has, er.dis⟩
theorem Up.thenS {L : Addr} (u : Up L hp φ1 h φ) (st : St c φ H env.locals m h) (v : UpS sc env h φ h' φ2) (hL : hp.get? env.locals = none) (hc : ∀ x a, sc.names.lookup x = some .cell → env.cells.lookup x = some a → hp.get? a = none)
    (hL' : ∀ o, hp.get? L = some o → ∃ o', h.get? L = some o') : Up L hp φ1 h' φ2 := by
  obtain ⟨ψ, rfl, h1⟩ := u.ext
  obtain ⟨ψ', rfl, h2⟩ := v.ext
  refine ⟨⟨ψ ++ ψ', by simp, fun a ha => ?_⟩, fun a o e hn hl => ?_⟩
  · rcases List.mem_append.mp ha with ha | ha
    · exact h1 a ha
    · cases q : hp.get? a with
      | none => rfl
      | some o =>
        have alive : ∃ o', h.get? a = some o' := by
          by_cases hm : a ∈ φ1
          · obtain ⟨xs, n, e⟩ := st.w.isL a (List.mem_append_left _ hm)
            exact ⟨_, e⟩
          · by_cases hl : a = L
            · exact hl ▸ hL' o (hl ▸ q)
            · exact ⟨o, u.keep a o q hm hl⟩
        obtain ⟨o', e⟩ := alive
        rw [h2 a ha] at e; cases e
  · refine v.keep a o (u.keep a o e hn hl) (fun hm => ?_) (fun q => by rw [q, hL] at e; cases e) fun x hx hc' => by rw [hc x a hx hc'] at e; cases e
    rcases List.mem_append.mp hm with hm | hm
    · exact hn hm
    · rw [h1 a hm] at e; cases e
structure UpD (sc : Scope) (env : Env) (D : Addr) (h : Heap) (φ : List Addr) (h' : Heap) (φ' : List Addr) : Prop where
  ext : ∃ ψ, φ' = φ ++ ψ ∧ ∀ a ∈ ψ, h.get? a = none
  keep : ∀ a o, h.get? a = some o → a ∉ φ → a ≠ env.locals → (∀ x, sc.names.lookup x = some .cell → env.cells.lookup x ≠ some a) → a ≠ D → h'.get? a = some o
theorem UpS.toD {D : Addr} (u : UpS sc env h φ h' φ') : UpD sc env D h φ h' φ' := ⟨u.ext, fun a o e n l q _ => u.keep a o e n l q⟩
theorem UpD.toC {D : Addr} (so : ScOk env sc) (er : ERel c N h φ env m ρ) (u : UpD sc env D h φ h' φ') : UpC [D] env.locals h φ h' φ' :=
  ⟨u.ext, fun a o e n l nc nd => u.keep a o e n l (fun x hx hc => by
    obtain ⟨a', y, e1, o', e2, e3⟩ := er.has x (.inl (so.cel x hx))
    rw [hc] at e1; cases e1
    rw [e] at e2; cases e2
    exact nc ⟨_, e3⟩) fun q => nd (q ▸ List.mem_singleton.mpr rfl)⟩
theorem UpD.trans {D : Addr} {h'' : Heap} {φ'' : List Addr} (so : ScOk env sc) (x : UpD sc env D h φ h' φ') (st' : St c φ' H env.locals m h') (er' : ERel c N h' φ' env m ρ) (hD : D ∈ c.gh) (y : UpD sc env D h' φ' h'' φ'') : UpD sc env D h φ h'' φ'' := by
  obtain ⟨ψ, rfl, h1⟩ := x.ext
  obtain ⟨ψ', rfl, h2⟩ := y.ext
  refine ⟨⟨ψ ++ ψ', by simp, fun a ha => ?_⟩, fun a o e hn hL nc hd => ?_⟩
  · rcases List.mem_append.mp ha with ha | ha
    · exact h1 a ha
    · cases q : h.get? a with
      | none => rfl
      | some o =>
        have alive : ∃ o', h'.get? a = some o' := by
          by_cases hm : a ∈ φ
          · obtain ⟨xs, n, e⟩ := st'.w.isL a (List.mem_append_left _ hm)
            exact ⟨_, e⟩
          · by_cases hL : a = env.locals
            · obtain ⟨o', _, _, e, _⟩ := st'.l.ns
              exact ⟨o', hL ▸ e⟩
            · by_cases hd : a = D
              · obtain ⟨_, _, o', e, _⟩ := st'.w.ghs D hD
                exact ⟨o', hd ▸ e⟩
              · by_cases nc : ∃ x, sc.names.lookup x = some .cell ∧ env.cells.lookup x = some a
                · obtain ⟨x, hx, hc⟩ := nc
                  obtain ⟨a', y, e1, o', e2, _⟩ := er'.has x (.inl (so.cel x hx))
                  rw [hc] at e1; cases e1
                  exact ⟨o', e2⟩
                · exact ⟨o, x.keep a o q hm hL (fun x hx hc => nc ⟨x, hx, hc⟩) hd⟩
        obtain ⟨o', e⟩ := alive
        rw [h2 a ha] at e; cases e
  · refine y.keep a o (x.keep a o e hn hL nc hd) (fun hm => ?_) hL nc hd
    rcases List.mem_append.mp hm with hm | hm
    · exact hn hm
    · rw [h1 a hm] at e; cases e
theorem UpD.side {D : Addr} {wr : List Addr} {h'' : Heap} (u : UpD sc env D h φ h' φ1) (k : KeepW wr h' h'') (hw : ∀ a ∈ wr, h.get? a = none ∨ a = D) : UpD sc env D h φ h'' φ1 :=
  ⟨u.ext, fun a o e n l q d => k a o (fun ha => by
    rcases hw a ha with q | q
    · rw [q] at e; cases e
    · exact d q) (u.keep a o e n l q d)⟩
theorem UpD.toUp {D L : Addr} (u : UpD sc env D h φ h' φ1) (hC : h.get? env.locals = none) (hcs : ∀ x a, sc.names.lookup x = some .cell → env.cells.lookup x = some a → h.get? a = none) (hD : h.get? D = none) : Up L h φ h' φ1 :=
  ⟨u.ext, fun a o e n _ => u.keep a o e n (fun q => by rw [q, hC] at e; cases e) (fun x hx hc => by rw [hcs x a hx hc] at e; cases e) fun q => by rw [q, hD] at e; cases e⟩
end

theorem bind_le {t : Tgt} {v : V} {ρ ρ' : En} (hb : bindT t v ρ = some ρ') (hx : ∀ x, tgHas t x → getE ρ x = none) : ∀ x u, getE ρ x = some u → getE ρ' x = some u := by
  have set1 : ∀ {ρ : En} {y : Nat} {w : V} {x : Nat} {u : V}, x ≠ y → getE ρ x = some u → getE (ρ.set y (some w)) x = some u := fun {ρ y w x u} n e => by
    unfold getE at e ⊢
    rw [List.getElem?_set_ne (Ne.symm n)]; exact e
  intro x u e
  cases t with
  | one y =>
    obtain rfl := someq hb
    exact set1 (fun q => by rw [hx x q] at e; cases e) e
  | two y z =>
    obtain ⟨p, q, rfl, rfl⟩ := bind_two hb
    exact set1 (fun q => by rw [hx x (.inr q)] at e; cases e) (set1 (fun q => by rw [hx x (.inl q)] at e; cases e) e)

theorem set_other {ρ : En} {y x : Nat} {w : V} (n : x ≠ y) : getE (ρ.set y (some w)) x = getE ρ x := by
  unfold getE; rw [List.getElem?_set_ne (Ne.symm n)]
theorem bind_other {t : Tgt} {v : V} {ρ ρ' : En} (hb : bindT t v ρ = some ρ') {x : Nat} (hx : ¬ tgHas t x) : getE ρ' x = getE ρ x := by
  cases t with
  | one y =>
    obtain rfl := someq hb
    exact set_other hx
  | two y z =>
    obtain ⟨p, q, rfl, rfl⟩ := bind_two hb
    exact (set_other fun e => hx (.inr e)).trans (set_other fun e => hx (.inl e))
theorem tgL_iff {t : Tgt} {x : Nat} : tgHas t x ↔ x ∈ tgL t := by cases t <;> simp [tgHas, tgL]
theorem tgDis_not {t u : Tgt} (h : tgDis t u = true) {x : Nat} (hx : tgHas u x) : ¬ tgHas t x := fun q => by
  have := List.all_eq_true.mp h x (tgL_iff.mp q)
  simp [tgL_iff.mp hx] at this

section
variable {c : Cx} {prog : Program} {w : World} {kw : Nat → List Str} {N : List Str} {Φ : Fns} {k : Nat} {A : Around} {E : Value → Shared → Prop} {s : Shared}

theorem tests_ok {sc2 : Scope} {ifs : List Expr} {q : Bool} {pc : PE} (hm : MIf c kw N sc2 ifs q pc) (hc : TrOk c prog w kw N Φ k pc) {g : List Addr} {env : Env} {φ : List Addr} {H H' : Hp} {m : Str → Option Value} {ρ : En} {z : V} {b : Bool} {Q : Bool → Shared → Prop}
    (so : ScOk env sc2) (ao : AOk A k) (st : St (c.wg g) φ H env.locals m s.heap) (er : ERel (c.wg g) N s.heap φ env m ρ) (he : (if q then ev Φ pc ρ H else some (.bool true, H)) = some (z, H')) (hz : truthV z = some b)
    (p : PostB (c.wg g) φ env.locals m s b H' Q) :
    wpAny (model prog w) A (forIn ifs true fun c r => if r = true then do let ok ← isTrue c env (eval c env); pure (ForInStep.yield ok) else pure (ForInStep.yield r)) Q E s := by
  cases hm with
  | none =>
    obtain ⟨rfl, rfl⟩ := some2 he
    obtain rfl := someq hz
    exact wpAny_tests_nil (p _ s.toks _ (.refl ..) st)
  | some m1 => exact wpAny_tests_one (hc m1 so ao st er he hz p)

structure CS (c : Cx) (N : List Str) (sc : Scope) (env : Env) (hp : Heap) (φ1 : List Addr) (D : Addr) (ρ : En) (done : List V) (xs : List Value) (kk : Nat) (h : Heap) (φ : List Addr) (H : Hp) (m : Str → Option Value) : Prop where
  st : St c φ H env.locals m h
  er : ERel c N h φ env m ρ
  up : UpD sc env D hp φ1 h φ
  d : h.get? D = some (lobj xs kk)
  vs : VRels c h φ done xs
section
variable {c : Cx} {N : List Str} {sc : Scope} {env : Env} {hp h h' : Heap} {φ1 φ φ' : List Addr} {D : Addr} {ρ ρ' : En} {done : List V} {xs : List Value} {kk : Nat} {H H' : Hp} {m m' : Str → Option Value} {wr : List Addr}
theorem CS.side (x : CS c N sc env hp φ1 D ρ done xs kk h φ H m) (hwp : ∀ a ∈ wr, hp.get? a = none) (hDw : D ∉ wr) (s1 : Sd c env.locals wr φ h) (s2 : Sd c env.locals wr φ h') (k : KeepW wr h h') : CS c N sc env hp φ1 D ρ done xs kk h' φ H m :=
  ⟨x.st.side s1 s2 k, x.er.side x.st s1 k, x.up.side k fun a ha => .inl (hwp a ha), k D _ hDw x.d, x.vs.side x.st s1 k⟩
theorem St.dNe (st : St c φ H env.locals m h) (hD : D ∈ c.gh) : D ≠ env.locals := by
  obtain ⟨_, _, o, e, q⟩ := st.w.ghs D hD
  exact st.l.notSeq e q
theorem CS.upd (x : CS c N sc env hp φ1 D ρ done xs kk h φ H m) (so : ScOk env sc) (hD : D ∈ c.gh) (u : Up env.locals h φ h' φ') (st' : St c φ' H' env.locals m h') : CS c N sc env hp φ1 D ρ done xs kk h' φ' H' m :=
  ⟨st', x.er.up x.st u, x.up.trans so x.st x.er hD (Up.toS u).toD, u.keep D _ x.d (x.st.w.ghs D hD).2.1 (x.st.dNe hD), x.vs.up x.st.w x.st.l u⟩
theorem CS.tgt (x : CS c N sc env hp φ1 D ρ done xs kk h φ H m) (so : ScOk env sc) (hD : D ∈ c.gh) (u : UpS sc env h φ h' φ') (st' : St c φ' H' env.locals m' h') (er' : ERel c N h' φ' env m' ρ') : CS c N sc env hp φ1 D ρ' done xs kk h' φ' H' m' := by
  refine ⟨st', er', x.up.trans so x.st x.er hD u.toD, u.keep D _ x.d (x.st.w.ghs D hD).2.1 (x.st.dNe hD) fun y hy hc => ?_, x.vs.upC x.st.w x.st.l (by simp) (u.toC so x.er)⟩
  obtain ⟨a, z, e1, o', e2, e3⟩ := x.er.has y (.inl (so.cel y hy))
  rw [hc] at e1; cases e1
  rw [x.d] at e2; cases e2
  cases e3
theorem CS.weaken (x : CS c N sc env hp φ1 D ρ' done xs kk h φ H m) (hle : ∀ y v, getE ρ y = some v → getE ρ' y = some v) : CS c N sc env hp φ1 D ρ done xs kk h φ H m := ⟨x.st, x.er.weaken hle, x.up, x.d, x.vs⟩
theorem CS.sdD (x : CS c N sc env hp φ1 D ρ done xs kk h φ H m) (hD : D ∈ c.gh) {h' : Heap} {ys : List Value} {j : Nat} (e : h'.get? D = some (lobj ys j)) : Sd c env.locals [D] φ h' := fun a ha => by
  rw [List.mem_singleton] at ha; subst ha
  exact ⟨(x.st.w.ghs a hD).1, (x.st.w.ghs a hD).2.1, x.st.dNe hD, _, e, fun _ => .inr ⟨_, _, rfl⟩, fun q => absurd hD q⟩
theorem CS.push (x : CS c N sc env hp φ1 D ρ done xs kk h φ H m) (hD : D ∈ c.gh) {v : V} {y : Value} {j : Nat} (rv : VRel c h φ v y) (k : KeepW [D] h h') (e : h'.get? D = some (lobj (xs ++ [y]) j)) : CS c N sc env hp φ1 D ρ (done ++ [v]) (xs ++ [y]) j h' φ H m :=
  ⟨x.st.side (x.sdD hD x.d) (x.sdD hD e) k, x.er.side x.st (x.sdD hD x.d) k, x.up.side k fun a ha => .inr (List.mem_singleton.mp ha), e, (x.vs.side x.st (x.sdD hD x.d) k).append (.cons (rv.side x.st (x.sdD hD x.d) k) .nil)⟩
end

inductive LoopI (c : Cx) (N : List Str) (sc : Scope) (env : Env) (hp : Heap) (φ1 : List Addr) (D : Addr) (ρ : En) (s : Shared) (items : List V) (S : Nat → List Addr → Heap → Prop) (M : List V → Hp → Option (List V × Hp)) (H3 : Hp) (l : List V) : Nat → Shared → Prop
  | mk {i : Nat} {h' : Heap} {tk : Nat} {φ' : List Addr} {H' : Hp} {mC : Str → Option Value} {xs : List Value} {k : Nat} {done rest : List V} (hi : i ≤ items.length) (hS : S i φ' h') (cs : CS c N sc env hp φ1 D ρ done xs k h' φ' H' mC) (hm : M (items.drop i) H' = some (rest, H3)) (hl : l = done ++ rest) :
      LoopI c N sc env hp φ1 D ρ s items S M H3 l (items.length + 1 - i) (sht s h' tk)

theorem mapC_inv {st : Hp → Bool} {f : V → Hp → Option (List V × Hp)} {v : V} {r : List V} {H H3 : Hp} {l : List V} (h : mapC st f (v :: r) H = some (l, H3)) : ∃ o H1 l', f v H = some (o, H1) ∧ st H1 = true ∧ mapC st f r H1 = some (l', H3) ∧ l = o ++ l' := by
  obtain ⟨p, h1, h⟩ := bindsome h
  obtain ⟨h2, h⟩ := ifsome h
  obtain ⟨q, h3, h⟩ := bindsome h
  obtain ⟨rfl, rfl⟩ := some2 h
  exact ⟨p.1, p.2, q.1, h1, h2, h3, rfl⟩

noncomputable def EmitOk (prog : Program) (w : World) (A : Around) (c : Cx) (N : List Str) (sc : Scope) (env : Env) (D : Addr) (emit : Sem Unit) (F : En → Hp → Option (List V × Hp)) (P : En → Prop) : Prop :=
  ∀ {hp : Heap} {φ1 φ : List Addr} {ρ : En} {done l : List V} {xs : List Value} {kk : Nat} {H H3 : Hp} {m : Str → Option Value} {s : Shared} {Q : Unit → Shared → Prop} {E : Value → Shared → Prop}, CS c N sc env hp φ1 D ρ done xs kk s.heap φ H m → P ρ → F ρ H = some (l, H3) → done.length + l.length ≤ 2 ^ 16 →
    (∀ h' tk φ' m' xs' kk', CS c N sc env hp φ1 D ρ (done ++ l) xs' kk' h' φ' H3 m' → UpD sc env D s.heap φ h' φ' → Q () (sht s h' tk)) → wpAny (model prog w) A emit Q E s

theorem comp_loop {sc2 : Scope} {cenv : Env} {elt target iter : Expr} {ifs : List Expr} {gens : List Comprehension} {depth : Nat} {emit : Sem Unit} {F : En → Hp → Option (List V × Hp)} {P : En → Prop} {pos : Pos} {I D : Addr} {wr gg G : List Addr} {items : List V} {X : V} {Hx : Hp} {S : Nat → List Addr → Heap → Prop} {Md : Nat → Value → List Addr → Heap → Prop}
    {t : Tgt} {q : Bool} {pc : PE} {ρ0 : En} {hp h0 : Heap} {φ1 φ0 : List Addr} {tk0 : Nat} {l done0 : List V} {xs0 : List Value} {kk0 : Nat} {H3 : Hp} {mC : Str → Option Value} {R : Result → Shared → Prop}
    (ht : compTurn (.ListComp elt gens sc2 pos) depth (.ref I) (.ref D) cenv = compGen (.ListComp elt gens sc2 pos) target iter ifs depth (.ref I) (.ref D) cenv emit)
    (T : Turns (c.wg gg) prog w A target I cenv.locals wr items X Hx S Md) (hMT : MT N t sc2 target) (hpc : TrOk c prog w kw N Φ k pc) (hif : MIf c kw N sc2 ifs q pc) (hem : EmitOk prog w A (c.wg gg) N sc2 cenv D emit F P)
    (so : ScOk cenv sc2) (ow : Own c sc2 cenv) (ao : AOk A k) (s0 : S 0 φ0 h0) (cs0 : CS (c.wg gg) N sc2 cenv hp φ1 D ρ0 done0 xs0 kk0 h0 φ0 Hx mC)
    (hwp : ∀ a ∈ wr, hp.get? a = none) (hG : ∀ a ∈ G, a ∈ gg) (hgw : ∀ a ∈ G, a ∉ wr) (hDG : D ∈ G)
    (hcl : ∀ x, tgHas t x → getE ρ0 x = none) (hP : ∀ v ρ', bindT t v ρ0 = some ρ' → P ρ') (hl : done0.length + l.length ≤ 2 ^ 16) {st : Hp → Bool} (hst : ∀ H, st H = true → stableV X Hx H = true)
    (hev : mapC st (fun v H => (bindT t v ρ0).bind fun ρ' => ob (if q then ev Φ pc ρ' H else some (.bool true, H)) fun z H => obT (truthV z) (F ρ' H) (some ([], H))) items Hx = some (l, H3))
    (fin : ∀ h' tk φ' m' xs' kk', CS (c.wg G) N sc2 cenv hp φ1 D ρ0 (done0 ++ l) xs' kk' h' φ' H3 m' → R (.ok .next) (sht s h' tk)) :
    codeAny (model prog w) A (.compLoop (.ListComp elt gens sc2 pos) depth (.ref I) (.ref D) cenv) R (sht s h0 tk0) := by
  have hD : D ∈ gg := hG D hDG
  have hDw : D ∉ wr := hgw D hDG
  have I0 : LoopI (c.wg gg) N sc2 cenv hp φ1 D ρ0 s items S (mapC st (fun v H => (bindT t v ρ0).bind fun ρ' => ob (if q then ev Φ pc ρ' H else some (.bool true, H)) fun z H => obT (truthV z) (F ρ' H) (some ([], H)))) H3 (done0 ++ l) (items.length + 1 - 0) (sht s h0 tk0) :=
    .mk (Nat.zero_le _) s0 cs0 hev rfl
  refine compLoop_go ht _ (fun E' n s' hI => ?_) _ I0
  cases hI with
  | @mk i h' tk φ' H' mC xs kk done rest hi hS cs hmap hl' =>
  by_cases hlt : i < items.length
  · obtain ⟨v, hv⟩ : ∃ v, items[i]? = some v := ⟨_, List.getElem?_eq_getElem hlt⟩
    rw [List.drop_eq_getElem_cons hlt, (List.getElem?_eq_some_iff.mp hv).2] at hmap
    obtain ⟨o, H1, rest', hturn, hstab, hrest, rfl⟩ := mapC_inv hmap
    have hstab := hst _ hstab
    have hn : items.length + 1 - (i + 1) < items.length + 1 - i := Nat.sub_lt_sub_left (Nat.lt_succ_of_lt hlt) (Nat.lt_succ_self i)
    refine T.item hv hS cs.st fun x h1 t1 hMd k1 => ?_
    have cs1 := cs.side hwp hDw (T.sdS hS) (T.sdM hMd) k1
    refine T.go hv hMd cs1.st fun h2 hS2 rv2 k2 => ?_
    have cs2 := cs1.side hwp hDw (T.sdM hMd) (T.sdS hS2) k2
    obtain ⟨ρ', hb, hturn⟩ := bindsome hturn
    refine target_ok (c := (c.wg gg)) hMT ao.hh so ow cs2.st cs2.er rv2 hb fun h3 t3 m3 u3 st3 er3 => ?_
    have cs3 := cs2.tgt so hD u3 st3 er3
    have hle := bind_le hb hcl
    refine ob_elim hturn fun z H4 hz hturn => ?_
    refine obT_elim hturn (fun ht hturn => ?_) fun ht hturn => ?_
    · refine tests_ok hif hpc so ao (s := (sht s h3 t3)) st3 er3 hz ht fun h4 t4 φ4 u4 st4 => ?_
      have cs4 := cs3.upd so hD u4 st4
      rw [if_pos rfl]
      have hsz : done.length + o.length ≤ 2 ^ 16 := by
        have := congrArg List.length hl'
        rw [List.length_append, List.length_append, List.length_append, ← Nat.add_assoc] at this
        exact Nat.le_trans (this ▸ Nat.le_add_right _ _) hl
      refine hem (s := (sht s h4 t4)) cs4 (hP _ _ hb) hturn hsz fun h6 t6 φ6 m6 xs6 kk6 cs6 u6 => ?_
      have uc := (u3.toD.trans so st3 er3 hD ((Up.toS u4).toD.trans so st4 cs4.er hD u6)).toC so cs2.er
      exact ⟨_, hn, .mk hlt (T.frame hS2 cs2.st (gx := [D]) (fun a ha => by rw [List.mem_singleton] at ha; subst ha; exact ⟨hD, hDw⟩) uc cs6.st hstab) (cs6.weaken hle) hrest (by rw [hl', List.append_assoc])⟩
    · obtain ⟨rfl, rfl⟩ := some2 hturn
      refine tests_ok hif hpc so ao (s := (sht s h3 t3)) st3 er3 hz ht fun h4 t4 φ4 u4 st4 => ?_
      have cs4 := cs3.upd so hD u4 st4
      have uc := (u3.trans so st3 er3 (Up.toS u4)).toC so cs2.er
      rw [if_neg (by decide)]
      exact ⟨_, hn, .mk hlt (T.frame hS2 cs2.st (gx := []) (by simp) uc st4 hstab) (cs4.weaken hle) hrest hl'⟩
  · obtain rfl : i = items.length := Nat.le_antisymm hi (Nat.le_of_not_lt hlt)
    refine T.done hS cs.st fun h1 t1 k1 => ?_
    rw [List.drop_length] at hmap
    obtain ⟨rfl, rfl⟩ := some2 hmap
    rw [List.append_nil] at hl'
    subst hl'
    exact fin h1 t1 φ' mC xs kk ⟨cs.st.over (T.sdS hS) k1 hG (fun a ha hg => hgw a hg ha), (cs.er.side cs.st (T.sdS hS) k1).sub hG, cs.up.side k1 fun a ha => .inl (hwp a ha), k1 D _ hDw cs.d, cs.vs.over cs.st (T.sdS hS) k1 hG⟩

noncomputable def emOne (elt : Expr) (acc : Value) (env : Env) : Sem Unit := do let _ ← call (.builtin "list.append") [acc, ← eval elt env]

theorem emit_one {sc2 : Scope} {cenv : Env} {elt : Expr} {D : Addr} {gg : List Addr} {pe : PE} (hpe : EvOk c prog w kw N Φ k pe) (hel : ME c kw N sc2 elt pe) (so : ScOk cenv sc2) (ao : AOk A k) (hD : D ∈ gg) :
    EmitOk prog w A (c.wg gg) N sc2 cenv D (emOne elt (.ref D) cenv) (fun ρ H => (ev Φ pe ρ H).map fun r => ([r.1], r.2)) (fun _ => True) := by
  intro hp φ1 φ ρ done l xs kk H H3 m s Q E cs _ he hl fin
  obtain ⟨r5, hr5, he⟩ := Option.map_eq_some_iff.mp he
  obtain ⟨rfl, rfl⟩ := some2 (congrArg some he)
  unfold emOne
  refine wpAny_bind (hpe hel so ao cs.st cs.er hr5 fun v5 h5 t5 φ5 u5 st5 rv5 => wpAny_bind ?_)
  have cs5 := cs.upd so hD u5 st5
  have hsz : xs.toArray.size ≤ sizeLine := by
    rw [List.size_toArray, cs.vs.length]
    exact Nat.le_trans (Nat.le_trans (Nat.le_add_right _ _) hl) (by decide +kernel)
  refine wpAny_list_append_plain (s := (sht s h5 t5)) ⟨kk, cs5.d⟩ (fun h6 hp6 hs6 => ?_) hsz
  obtain ⟨k6, hD6⟩ := hp6
  rw [show xs.toArray.push v5 = (xs ++ [v5]).toArray by simp] at hD6
  have kw6 : KeepW [D] h5 h6 := fun a o n e => (hs6.2 a (by simpa using n)).trans e
  exact wpAny_pure (fin h6 t5 φ5 m _ _ (cs5.push hD rv5 kw6 hD6) ((Up.toS u5).toD.side kw6 fun a ha => .inr (List.mem_singleton.mp ha)))
end
end Mine

-- M23
set_option autoImplicit false
set_option maxRecDepth 100000
namespace Mine
open PySem PySem.W PyProof.Rows

section
variable {c : Cx} {prog : Program} {w : World} {kw : Nat → List Str} {N : List Str} {Φ : Fns} {k : Nat} {A : Around} {E : Value → Shared → Prop} {s : Shared}

theorem gen_ok (G : GF c) {sc : Scope} {gn : Gn} {iter target : Expr} {pa pb : PE} (hm : MG c kw N sc gn iter pa pb) (htt : (gn == .zip || gn == .enum) = false ∨ isTupE target = true) (ha : EvOk c prog w kw N Φ k pa) (hb : EvOk c prog w kw N Φ k pb)
    {g : List Addr} {env : Env} {φ : List Addr} {H H1 H2 : Hp} {m : Str → Option Value} {ρ : En} {x y : V} {items : List V} {Q : Value → Shared → Prop}
    (so : ScOk env sc) (ao : AOk A k) (st : St (c.wg g) φ H env.locals m s.heap) (er : ERel (c.wg g) N s.heap φ env m ρ) (e1 : ev Φ pa ρ H = some (x, H1)) (e2 : ev Φ pb ρ H1 = some (y, H2)) (e3 : srcV gn x y H2 = some items)
    (h : ∀ hp φ1 it h' tk, Up env.locals s.heap φ hp φ1 → St (c.wg g) φ1 H2 env.locals m hp → Source (c.wg g) prog w A target env.locals φ1 hp items x H2 it h' → KeepA hp h' → Q it (sht s h' tk)) :
    wpAny (model prog w) A (eval iter env) (fun xv s₁ => wpAny (model prog w) A (pyIter xv) Q E s₁) E s := by
  cases hm with
  | plain m1 hp =>
    subst hp
    obtain ⟨rfl, rfl⟩ := some2 e2
    exact ha m1 so ao st er e1 fun v1 h1 t1 φ1 u1 st1 r1 => source_ok (s := (sht s h1 t1)) ao.hh e3 st1 r1 fun it h' hs hk => h h1 φ1 it h' t1 u1 st1 hs hk
  | zip hg hk hd m1 m2 =>
    obtain ⟨elts, kk, tp, rfl⟩ := isTupE_ok (htt.resolve_left (by decide))
    refine wpAny_Call_Name_kw (glob_ok G hg (so.glo _ hk) hd st er ?_)
    refine callWith_es (P := fun _ => True) (.cons m1 (.cons m2 .nil)) (fun h _ => keeper_type _ h) (arg2_ok ha hb m1 m2 so ao st er e1 e2 fun v1 v2 h1 t1 φ1 u1 st1 r1 r2 => ⟨trivial, ?_⟩)
    refine source_zip (s := (sht s h1 t1)) (X := x) ao.hh e3 st1 r1 r2 fun it h' hs hk hi => hi rfl (h h1 φ1 it h' t1 u1 st1 hs hk)
  | enum hg hk hd m1 hp =>
    subst hp
    obtain ⟨elts, kk, tp, rfl⟩ := isTupE_ok (htt.resolve_left (by decide))
    obtain ⟨rfl, rfl⟩ := some2 e2
    refine wpAny_Call_Name_kw (glob_ok G hg (so.glo _ hk) hd st er ?_)
    refine callWith_es (P := fun _ => True) (.cons m1 .nil) (fun h _ => keeper_type _ h) (arg1_ok ha m1 so ao st er e1 fun v1 h1 t1 φ1 u1 st1 r1 => ⟨trivial, ?_⟩)
    refine source_enum (s := (sht s h1 t1)) (X := x) ao.hh e3 st1 r1 fun it h' hs hk hi => hi rfl (h h1 φ1 it h' t1 u1 st1 hs hk)

theorem MG.fold {sc : Scope} {gn : Gn} {iter : Expr} {pa pb : PE} (hm : MG c kw N sc gn iter pa pb) (env : Env) (v : Value) : foldedSetIterable iter env v = pure v := by
  cases hm with
  | plain m1 _ => exact ME.fold m1 env v
  | zip => rfl
  | enum => rfl

theorem hold_ok {g : List Addr} {env : Env} {φ1 : List Addr} {H2 : Hp} {m : Str → Option Value} {hp h0 : Heap} {wr tg : List Addr} {ρ : En} (st1 : St (c.wg g) φ1 H2 env.locals m hp) (er1 : ERel (c.wg g) N hp φ1 env m ρ) (hk1 : KeepA hp h0)
    (hwr : ∀ a ∈ wr, hp.get? a = none ∧ ∃ o, h0.get? a = some o) (htg : ∀ a ∈ tg, a ∈ wr ∧ ∃ o, h0.get? a = some o ∧ isSeq o) :
    (∀ a ∈ g, a ∉ wr) ∧ St (c.wg (tg ++ g)) φ1 H2 env.locals m h0 ∧ ERel (c.wg (tg ++ g)) N h0 φ1 env m ρ ∧ (∀ a ∈ tg ++ g, a ∈ g ∨ hp.get? a = none) := by
  have hGG : ∀ a ∈ tg ++ g, a ∈ g ∨ hp.get? a = none := fun a ha => by
    rcases List.mem_append.mp ha with ha | ha
    · exact .inr (hwr a (htg a ha).1).1
    · exact .inl ha
  refine ⟨fun a ha q => ?_, St.grow (c := (c.wg g)) st1 hk1 (fun a ha => ?_) (st1.l.ns.at' fun o e => hk1 _ o e) st1.l.nk st1.l.above,
    ⟨er1.nd, er1.fn, er1.gl, er1.bi, fun i v id e n q => let ⟨y, h1, h2⟩ := er1.loc i v id e n q; ⟨y, h1, h2.grow st1 hk1 hGG⟩, fun i v id e n q => let ⟨a, y, h1, ⟨o, h2, h3⟩, h4⟩ := er1.cel i v id e n q; ⟨a, y, h1, ⟨o, hk1 _ _ h2, h3⟩, h4.grow st1 hk1 hGG⟩,
      fun i q => let ⟨a, y, h1, ⟨o, h2, h3⟩⟩ := er1.has i q; ⟨a, y, h1, ⟨o, hk1 _ _ h2, h3⟩⟩, er1.dis⟩, hGG⟩
  · obtain ⟨e1, o, e2⟩ := hwr a q
    obtain ⟨_, _, o, e, _⟩ := st1.w.ghs a ha
    rw [e1] at e; cases e
  · rcases List.mem_append.mp ha with ha | ha
    · exact .inr ⟨(hwr a (htg a ha).1).1, (htg a ha).2⟩
    · exact .inl ha

noncomputable def CompOut (c : Cx) (g : List Addr) (L : Addr) (φ : List Addr) (m : Str → Option Value) (s : Shared) (r : V) (H' : Hp) (P : Value → Addr → Shared → Prop) : Prop :=
  ∀ h' tk φ' C mC val, Up L s.heap φ h' φ' → St (c.wg g) φ' H' L m h' → Lo c C mC h' → s.heap.get? C = none → VRel (c.wg g) h' φ' r val → P val C (sht s h' tk)

theorem comp_ok (G : GF c) {sc sc2 : Scope} {elt target iter : Expr} {ifs : List Expr} {rest : List Comprehension} {em : Value → Env → Sem Unit} {F : En → Hp → Option (List V × Hp)} {P : En → Prop} {pos pos' : Pos} {mu : Bool} {pa pb pc : PE} {t : Tgt} {gn : Gn} {cls : List Nat} {q : Bool} {use : Option (Value → Sem Unit)}
    (ht : ∀ it acc cenv, compTurn (.ListComp elt (⟨target, iter, ifs, 0⟩ :: rest) sc2 pos) 0 it acc cenv = compGen (.ListComp elt (⟨target, iter, ifs, 0⟩ :: rest) sc2 pos) target iter ifs 0 it acc cenv (em acc cenv))
    (htt : (gn == .zip || gn == .enum) = false ∨ isTupE target = true) (hMT : MT N t sc2 target) (cs : CScope N sc sc2 cls) (hm : MG c kw N sc gn iter pa pb) (hif : MIf c kw N sc2 ifs q pc)
    (ha : EvOk c prog w kw N Φ k pa) (hb : EvOk c prog w kw N Φ k pb) (hpc : TrOk c prog w kw N Φ k pc) (hem : ∀ {D : Addr} {gg : List Addr} {cenv : Env}, ScOk cenv sc2 → Own c sc2 cenv → D ∈ gg → EmitOk prog w A (c.wg gg) N sc2 cenv D (em (.ref D) cenv) F P)
    {g : List Addr} {env : Env} {φ : List Addr} {H H1 H2 H3 H' : Hp} {m : Str → Option Value} {ρ : En} {x y r : V} {items l : List V} {Q : Value → Shared → Prop} (hP : ∀ v ρ', bindT t v (clearE cls ρ) = some ρ' → P ρ')
    (so : ScOk env sc) (ao : AOk A k) (st : St (c.wg g) φ H env.locals m s.heap) (er : ERel (c.wg g) N s.heap φ env m ρ) (e1 : ev Φ pa ρ H = some (x, H1)) (e2 : ev Φ pb ρ H1 = some (y, H2)) (e3 : srcV gn x y H2 = some items)
    (e4 : mapC (stableV x H2) (fun v H => (bindT t v (clearE cls ρ)).bind fun ρ' => ob (if q then ev Φ pc ρ' H else some (.bool true, H)) fun z H => obT (truthV z) (F ρ' H) (some ([], H))) items H2 = some (l, H3)) (he : mkL mu l H3 = some (r, H'))
    (fin : CompOut c g env.locals φ m s r H' fun val C s' => compPost (model prog w) A E use Q val C (.ok .next) s') :
    wpAny (model prog w) A (comprehension (.ListComp elt (⟨target, iter, ifs, 0⟩ :: rest) sc2 pos) sc2 env pos' (newList []) false (eval iter env) use) Q E s := by
  have free0 : ∀ y, (y, NameKind.free) ∈ sc2.names → ∃ a, env.cells.lookup y = some a := fun y hy => by
    obtain ⟨a, _, e, _⟩ := er.has y (by
      rcases cs.freeIn hy with q | q
      · exact .inl (so.cel y q)
      · exact (so.fre y q).symm)
    exact ⟨a, e⟩
  refine wpAny_comprehension_free (cl := clFrom env.cells sc2.names []) rfl (fun v => hm.fold env v) (closure_ok free0) cs.kind (fun x hx hk => lookup_of_mem cs.nd (by rw [← hk]; exact hx)) ?_
  refine wpAny_mono (gen_ok (target := target) G hm htt ha hb so ao st er e1 e2 e3 (Q := fun it s₂ => wpAny (model prog w) A (newList []) (fun acc s₃ => wpAny (model prog w) A (newFunctionEnv sc2 env.globals (clFrom env.cells sc2.names []) [] env.qual none .none (some env)) (fun cenv s₄ =>
    codeAny (model prog w) A (.compStart (.ListComp elt (⟨target, iter, ifs, 0⟩ :: rest) sc2 pos) 0 it acc { cenv with scope := relabel sc2 env }) (compPost (model prog w) A E use Q acc cenv.locals) s₄) E s₃) E s₂) fun hp φ1 it h' tk u1 st1 src hk1 => ?_) (fun _ _ q => q) fun _ _ q => q
  have er1 := er.up st u1
  obtain ⟨I, wr, tg, rfl, hwr, htg, hturns⟩ := src
  refine wpAny_newObj_type (newEnv_ok fun h2 new ns2 hk2 hnew hcell hap => ?_)
  dsimp only at ns2 hk2 hcell ⊢
  have eD0 : (h'.push { cls := .type "list", dict := none, data := .seq ([] : List Value).toArray }).get? h'.objs.size = some (lobj [] 0) := Heap.get?_push_size _ rfl
  generalize hH1 : h'.push { cls := .type "list", dict := none, data := .seq ([] : List Value).toArray } = Hd at ns2 hk2 hcell eD0 ⊢
  have hk0 : KeepA h' Hd := fun b o e => hH1 ▸ Heap.get?_push_of_some _ e
  have hkD : KeepA hp h2 := (hk1.trans hk0).trans hk2
  have hDn : h'.get? h'.objs.size = none := get_none_of_le (Nat.le_refl _)
  have hDp : hp.get? h'.objs.size = none := noneOf hk1 hDn
  have hgw : ∀ a ∈ h'.objs.size :: g, a ∉ wr := fun a ha q => by
    obtain ⟨e1, o, e2⟩ := hwr a q
    rcases List.mem_cons.mp ha with rfl | ha
    · rw [hDn] at e2; cases e2
    · obtain ⟨_, _, o, e, _⟩ := st1.w.ghs a ha
      rw [e1] at e; cases e
  have hGG : ∀ a ∈ tg ++ (h'.objs.size :: g), a ∈ g ∨ hp.get? a = none := fun a ha => by
    rcases List.mem_append.mp ha with ha | ha
    · exact .inr (hwr a (htg a ha).1).1
    · rcases List.mem_cons.mp ha with rfl | ha
      · exact .inr hDp
      · exact .inl ha
  obtain ⟨so2, ow2, er2, hcs, hC⟩ := cenv_ok (c := (c.wg g)) (G := tg ++ (h'.objs.size :: g)) so st1 er1 cs hkD hGG (hk1.trans hk0) ns2 hnew hcell hap rfl
  have hCL : Hd.get? Hd.objs.size = none := get_none_of_le (Nat.le_refl _)
  obtain ⟨S, Md, T, hS0⟩ := hturns (h'.objs.size :: g) Hd.objs.size h2 (fun a ha => by
    rcases List.mem_cons.mp ha with rfl | ha
    · exact .inr hDn
    · exact .inl ha) (hk0.trans hk2) (.inr (noneOf hk0 hCL))
  have st2 : St (c.wg (tg ++ (h'.objs.size :: g))) φ1 H2 Hd.objs.size (fun _ => none) h2 := by
    refine St.grow (c := (c.wg g)) st1 hkD (fun a ha => ?_) ns2 rfl ?_
    · rcases List.mem_append.mp ha with ha | ha
      · obtain ⟨o, e, q⟩ := (htg a ha).2
        exact .inr ⟨(hwr a (htg a ha).1).1, o, hk2 _ _ (hk0 _ _ e), q⟩
      · rcases List.mem_cons.mp ha with rfl | ha
        · exact .inr ⟨hDp, _, hk2 _ _ eD0, .inr ⟨[], 0, rfl⟩⟩
        · exact .inl ha
    · refine Nat.le_trans st1.l.above ?_
      obtain ⟨o, _, _, e, _⟩ := st1.l.ns
      exact Nat.le_of_lt (Heap.lt_size (hk0 _ _ (hk1 _ _ e)))
  have up0 : UpD sc2 { scope := relabel sc2 env, locals := Hd.objs.size, globals := env.globals, cells := new ++ clFrom env.cells sc2.names [], qual := env.qual, func := none, code := env.code, frame := env.frame, builtins := env.builtins } h'.objs.size hp φ1 h2 φ1 := ⟨⟨[], by simp, by simp⟩, fun a o e _ _ _ _ => hkD a o e⟩
  have hlen := mkL_len he
  have hcl0 : ∀ x, tgHas t x → getE (clearE cls ρ) x = none := fun x hx => by
    cases e : getE (clearE cls ρ) x with
    | none => rfl
    | some v =>
      obtain ⟨_, hn⟩ := getE_clear e
      cases hMT with
      | one hN hk _ => rw [hx] at hn; exact absurd (cs.bound hN hk) hn
      | two hN hk _ hN' hk' _ =>
        rcases hx with hx | hx
        · rw [hx] at hn; exact absurd (cs.bound hN hk) hn
        · rw [hx] at hn; exact absurd (cs.bound hN' hk') hn
  have loop : ∀ s₃ : Shared, s₃ = (sht s h2 tk) → codeAny (model prog w) A (.compLoop (.ListComp elt (⟨target, iter, ifs, 0⟩ :: rest) sc2 pos) 0 (.ref I) (.ref h'.objs.size)
      { scope := relabel sc2 env, locals := Hd.objs.size, globals := env.globals, cells := new ++ clFrom env.cells sc2.names [], qual := env.qual, func := none, code := env.code, frame := env.frame, builtins := env.builtins })
      (compPost (model prog w) A E use Q (.ref h'.objs.size) Hd.objs.size) s₃ := by
    rintro s₃ rfl
    refine comp_loop (c := c) (G := h'.objs.size :: g) (hp := hp) (φ1 := φ1) (φ0 := φ1) (D := h'.objs.size) (l := l) (H3 := H3) (done0 := []) (xs0 := []) (kk0 := 0) (ht _ _ _) T hMT hpc hif (hem so2 ow2 (List.mem_append_right _ (.head _))) so2 ow2 ao hS0 ⟨st2, er2, up0, hk2 _ _ eD0, .nil⟩ (fun a ha => (hwr a ha).1) (fun a ha => List.mem_append_right _ ha) hgw (.head _) hcl0 hP (by rw [List.length_nil, Nat.zero_add]; exact hlen) (fun _ q => q) e4 ?_
    intro h3 t3 φ3 mC xs kx cs3
    have up3 : Up Hd.objs.size hp φ1 h3 φ3 := cs3.up.toUp hC hcs hDp
    have st3 := cs3.st
    have hD3 := cs3.d
    have rs3 := cs3.vs
    have hDg : h'.objs.size ∉ g := fun q => by
      obtain ⟨_, _, o, e, _⟩ := st1.w.ghs _ q
      rw [hDp] at e; cases e
    obtain ⟨ψ, hψ, st4, rv⟩ := mkL_gh he st3 hDg hD3 rs3
    have hCp : ∀ a o, hp.get? a = some o → a ≠ Hd.objs.size := fun a o e q => by rw [q] at e; exact absurd (hC.symm.trans e) (by simp)
    have upL : Up env.locals hp φ1 h3 (φ3 ++ ψ) := by
      obtain ⟨ψ', rfl, q⟩ := up3.ext
      refine ⟨⟨ψ' ++ ψ, by simp, fun a ha => ?_⟩, fun a o e n _ => up3.keep a o e n (hCp a o e)⟩
      rcases List.mem_append.mp ha with ha | ha
      · exact q a ha
      · rw [hψ a ha]; exact hDp
    refine fin h3 t3 (φ3 ++ ψ) Hd.objs.size mC (.ref h'.objs.size) (u1.trans st1.w st1.l upL) ⟨st4.w, st1.l.ns.at' fun o e => up3.keep _ o e (st1.l.notCell st1.w) (hCp _ o e), st1.l.nk, st1.l.above⟩ ⟨st3.l.ns, st3.l.nk, st3.l.above⟩ ?_ rv
    cases q : s.heap.get? Hd.objs.size with
    | none => rfl
    | some o =>
      exfalso
      have alive : ∃ o', hp.get? Hd.objs.size = some o' := by
        by_cases hm : Hd.objs.size ∈ φ
        · obtain ⟨xs, n, e⟩ := st1.w.isL _ (by obtain ⟨ψ, rfl, _⟩ := u1.ext; exact List.mem_append_left _ hm)
          exact ⟨_, e⟩
        · by_cases hl : Hd.objs.size = env.locals
          · obtain ⟨o', _, _, e, _⟩ := st1.l.ns
            exact ⟨o', hl ▸ e⟩
          · exact ⟨o, u1.keep _ o q hm hl⟩
      obtain ⟨o', e⟩ := alive
      exact hCp _ _ e rfl
  exact codeAny_compStart_list (loop _ rfl) (T.self hS0 (loop _ rfl))

theorem foldedOne {elt : Expr} {gens : List Comprehension} {target iter : Expr} {pos : Pos} {scope : Scope} {it acc : Value} {env : Env} {R : Result → Shared → Prop} {g0 : Comprehension}
    (h0 : codeAny (model prog w) A (.compLoop (.ListComp elt (g0 :: ⟨target, iter, [], 0⟩ :: gens) scope pos) 1 it acc env) R s)
    (h : ∀ E', wpAny (model prog w) A (pyIter it) (fun it' s' => codeAny (model prog w) A (.compLoop (.ListComp elt (g0 :: ⟨target, iter, [], 0⟩ :: gens) scope pos) 1 it' acc env) R s') E' s) :
    codeAny (model prog w) A (.compStart (.ListComp elt (g0 :: ⟨target, iter, [], 0⟩ :: gens) scope pos) 1 it acc env) R s := by
  refine codeAny_of_tree ?_
  show wpAny _ _ ((compStart (.ListComp elt (g0 :: ⟨target, iter, [], 0⟩ :: gens) scope pos) 1 it acc env).onRaise (fun x => do noteFrame x env; standAt theWindowsPlace)) _ _ s
  refine wpAny_notedAt ?_
  unfold compStart
  show wpAny _ _ (ask >>= _) _ _ s
  refine wpAny_bind (wpAny_askSetting (wpAny_ite ?_))
  split
  · first
      | exact wpAny_bind (wpAny_pure (wpAny_pure (And.intro rfl h0)))
      | exact wpAny_pure (And.intro rfl h0)
  · refine wpAny_bind (wpAny_rule ?_)
    show wpAny _ _ (standAt iter.pos >>= _) _ _ s
    exact wpAny_bind (wpAny_standAt (wpAny_bind (wpAny_mono (h _) (fun it' s' h' => wpAny_pure (And.intro rfl h')) fun _ _ x => x)))

noncomputable def emTwo (e iter : Expr) (acc : Value) (env : Env) : Sem Unit := do
  let x ← eval iter env
  standAt iter.pos
  let x ← foldedSetIterable iter env x
  let _ ← runOwn (.compStart e 1 (← holding [x] (pyIter x)) acc env) env

theorem turn_two {t1 i1 t2 i2 elt : Expr} {sc : Scope} {pos : Pos} (it acc : Value) (env : Env) :
    compTurn (.ListComp elt [⟨t1, i1, [], 0⟩, ⟨t2, i2, [], 0⟩] sc pos) 0 it acc env = compGen (.ListComp elt [⟨t1, i1, [], 0⟩, ⟨t2, i2, [], 0⟩] sc pos) t1 i1 [] 0 it acc env (emTwo (.ListComp elt [⟨t1, i1, [], 0⟩, ⟨t2, i2, [], 0⟩] sc pos) i2 acc env) := by
  unfold compGen emTwo
  simp only [bind_assoc, pure_bind]
  rfl

theorem emit_two (G : GF c) {sc2 : Scope} {cenv : Env} {elt target iter : Expr} {g0 : Comprehension} {pos : Pos} {t : Tgt} {D : Addr} {gg : List Addr} {pa pe : PE} (ha : EvOk c prog w kw N Φ k pa) (hpe : EvOk c prog w kw N Φ k pe) (hit : ME c kw N sc2 iter pa) (hel : ME c kw N sc2 elt pe) (hMT : MT N t sc2 target)
    (so : ScOk cenv sc2) (ow : Own c sc2 cenv) (ao : AOk A k) (hD : D ∈ gg) :
    EmitOk prog w A (c.wg gg) N sc2 cenv D (emTwo (.ListComp elt [g0, ⟨target, iter, [], 0⟩] sc2 pos) iter (.ref D) cenv)
      (fun ρ H => ob (ev Φ pa ρ H) fun y H => (srcV .plain y .none H).bind fun its => mapC (stableV y H) (fun u H => (bindT t u ρ).bind fun ρ' => (ev Φ pe ρ' H).map fun r => ([r.1], r.2)) its H) (fun ρ => ∀ x, tgHas t x → getE ρ x = none) := by
  intro hp φ1 φ ρ done l xs kk H H3 m s Q E cs hρ he hl fin
  refine ob_elim he fun y H1 e1 he => bd_elim he fun its e3 he => ?_
  have hg : MG c kw N sc2 .plain iter pa (.k .none) := .plain hit rfl
  have gk := gen_ok (A := A) (E := E) (s := s) (target := target) (Q := fun it s₂ => wpAny (model prog w) A (runOwn (.compStart (.ListComp elt [g0, ⟨target, iter, [], 0⟩] sc2 pos) 1 it (.ref D) cenv) cenv) (fun _ => Q ()) E s₂) G hg (.inl rfl) ha (ev_k .none) so ao cs.st cs.er e1 rfl e3 fun hp2 φ2 it h0 tk0 u1 st1 src hk1 => ?_
  · refine wpAny_bind (wpAny_mono gk (fun xv s₁ h₁ => wpAny_bind (wpAny_standAt (wpAny_bind (wpAny_of_eq (hg.fold cenv xv) (wpAny_bind (wpAny_holding (wpAny_mono h₁ (fun it s₂ h₂ => wpAny_bind (wpAny_mono h₂ (fun _ _ q => wpAny_pure q) fun _ _ q => q)) fun _ _ q => q))))))) fun _ _ q => q)
  have cs1 := cs.upd so hD u1 st1
  obtain ⟨I, wr, tg, rfl, hwr, htg, hturns⟩ := src
  obtain ⟨S, Md, T, hS0⟩ := hturns gg cenv.locals h0 (fun a ha => .inl ha) (fun _ _ e => e) (.inl rfl)
  obtain ⟨hgw, st0, er0, hGG⟩ := hold_ok st1 cs1.er hk1 hwr htg
  have loop : codeAny (model prog w) (A.mark none) (.compLoop (.ListComp elt [g0, ⟨target, iter, [], 0⟩] sc2 pos) 1 (.ref I) (.ref D) cenv) (fun r s' => match r with | .ok f => Q () s' | .error e => cameBackBy (model prog w) A cenv E e s') (sht s h0 tk0) := by
    refine comp_loop (Φ := Φ) (kw := kw) (A := A) (c := c) (G := gg) (hp := hp2) (φ1 := φ2) (φ0 := φ2) (D := D) (l := l) (H3 := H3) (done0 := done) (xs0 := xs) (kk0 := kk) (st := stableV y H1) (q := false) (pc := .k .none) (P := fun _ => True) rfl T hMT (tr_of (ev_k .none) fun hm env whole => plainOf hm.kind env whole) .none (emit_one hpe hel so ao (List.mem_append_right _ hD)) so ow ao hS0
      ⟨st0, er0, ⟨⟨[], by simp, by simp⟩, fun a o e _ _ _ _ => hk1 a o e⟩, hk1 _ _ cs1.d, cs1.vs.grow st1 hk1 hGG⟩ (fun a ha => (hwr a ha).1) (fun a ha => List.mem_append_right _ ha) hgw hD hρ (fun _ _ _ => trivial) hl (fun _ q => q) he ?_
    intro h3 t3 φ3 m3 xs3 kk3 cs3
    exact fin h3 t3 φ3 m3 xs3 kk3 ⟨cs3.st, cs3.er, cs1.up.trans so st1 cs1.er hD cs3.up, cs3.d, cs3.vs⟩ ((Up.toS u1).toD.trans so st1 cs1.er hD cs3.up)
  exact wpAny_runOwn (foldedOne loop fun E' => T.self hS0 loop)
end
end Mine

-- M24
set_option autoImplicit false
set_option maxRecDepth 100000
namespace Mine
open PySem PySem.W PyProof.Rows

section
variable {c : Cx} {prog : Program} {w : World} {kw : Nat → List Str} {N : List Str} {Φ : Fns} {k : Nat}

theorem letgo {g : List Addr} {φ φ' : List Addr} {H' : Hp} {L C : Addr} {m mC : Str → Option Value} {hb h' h'' : Heap} (u : Up L hb φ h' φ') (st : St (c.wg g) φ' H' L m h') (lo : Lo c C mC h') (hC : hb.get? C = none) (hL : ∃ o, hb.get? L = some o) (hs : Heap.SameBut C h' h'') :
    Up L hb φ h'' φ' ∧ St (c.wg g) φ' H' L m h'' ∧ (∀ {v : V} {x : Value}, VRel (c.wg g) h' φ' v x → VRel (c.wg g) h'' φ' v x) ∧
      (∀ {N : List Str} {env : Env} {ρ : En}, ERel (c.wg g) N h' φ' env m ρ → ERel (c.wg g) N h'' φ' env m ρ) := by
  have kk : KeepL C h' h'' := fun a o e n => (hs.2 a n).trans e
  have lo' : Lo (c.wg g) C mC h' := ⟨lo.ns, lo.nk, lo.above⟩
  have nL : L ≠ C := fun q => by obtain ⟨o, e⟩ := hL; rw [q, hC] at e; cases e
  have stC : St (c.wg g) φ' H' C mC h' := ⟨st.w, lo'⟩
  refine ⟨u.side (wr := [C]) (fun a o n e => kk a o e (by simpa using n)) (by simpa using hC), ⟨st.w.keepL lo' kk, st.l.ns.at' fun o e => kk L o e nL, st.l.nk, st.l.above⟩, fun r => r.keepL st.w lo' kk, fun {N env ρ} er => ?_⟩
  have cellK : ∀ {a : Addr} {y : Option Value}, h'.IsCell a y → h''.IsCell a y := fun {a y} ⟨o, e, d⟩ => ⟨o, kk a o e (fun q => by
    obtain ⟨o', es, ep, es', h1, _⟩ := lo.ns
    rw [← q, e] at es'; cases es'
    rw [h1] at d; cases d), d⟩
  exact ⟨er.nd, er.fn, er.gl, er.bi, fun i v id e n q => let ⟨y, h1, h2⟩ := er.loc i v id e n q; ⟨y, h1, h2.keepL st.w lo' kk⟩, fun i v id e n q => let ⟨a, y, h1, h2, h3⟩ := er.cel i v id e n q; ⟨a, y, h1, cellK h2, h3.keepL st.w lo' kk⟩,
    fun i q => let ⟨a, y, h1, h2⟩ := er.has i q; ⟨a, y, h1, cellK h2⟩, er.dis⟩

theorem ev_comp (G : GF c) {mu : Bool} {pe pa pb pc : PE} {t : Tgt} {gn : Gn} {cls : List Nat} {q : Bool} (ha : EvOk c prog w kw N Φ k pa) (hb : EvOk c prog w kw N Φ k pb) (hpc : TrOk c prog w kw N Φ k pc) (hpe : EvOk c prog w kw N Φ k pe) :
    EvOk c prog w kw N Φ k (.comp mu pe t gn pa pb cls q pc) := by
  intro sc e hm g env A E s φ H m ρ r H' Q so ao st er he p
  cases hm with
  | comp htt hMT cs hg hif hel =>
    rw [eval_ListComp]
    refine ob_elim he fun x H1 e1 he => ob_elim he fun y H2 e2 he => bd_elim he fun items e3 he => ob_elim he fun l H3 e4 he => ?_
    refine comp_ok (use := none) (em := emOne _) G (fun _ _ _ => rfl) htt hMT cs hg hif ha hb hpc (fun so2 ow2 hD => emit_one hpe hel so2 ao hD) (fun _ _ _ => trivial) so ao st er e1 e2 e3 e4 he fun h' tk φ' C mC val u st' lo hC rv => ⟨mC, lo.ns, fun h'' hs => ?_⟩
    obtain ⟨u2, st2, vr, _⟩ := letgo u st' lo hC (by obtain ⟨o, _, _, e, _⟩ := st.l.ns; exact ⟨o, e⟩) hs
    exact p val h'' tk φ' u2 st2 (vr rv)

theorem plain_of {q : PE} (hq : EvOk c prog w kw N Φ k q) (h : kP q = 3) : TrOk c prog w kw N Φ k q := tr_of hq fun hm env whole => plainOf (hm.kind.trans h) env whole

theorem clear_free {sc sc2 : Scope} {cls : List Nat} {t : Tgt} {tx : Expr} {ρ : En} (cs : CScope N sc sc2 cls) (hMT : MT N t sc2 tx) {x : Nat} (hx : tgHas t x) : getE (clearE cls ρ) x = none := by
  cases e : getE (clearE cls ρ) x with
  | none => rfl
  | some v =>
    obtain ⟨_, hn⟩ := getE_clear e
    cases hMT with
    | one hN hk _ => rw [show x = _ from hx] at hn; exact absurd (cs.bound hN hk) hn
    | two hN hk _ hN' hk' _ =>
      rcases hx with hx | hx
      · rw [hx] at hn; exact absurd (cs.bound hN hk) hn
      · rw [hx] at hn; exact absurd (cs.bound hN' hk') hn

theorem ev_comp2 (G : GF c) {pe pa pb : PE} {t1 t2 : Tgt} {cls : List Nat} (ha : EvOk c prog w kw N Φ k pa) (hb : EvOk c prog w kw N Φ k pb) (hpe : EvOk c prog w kw N Φ k pe) :
    EvOk c prog w kw N Φ k (.comp2 pe t1 pa t2 pb cls) := by
  intro sc e hm g env A E s φ H m ρ r H' Q so ao st er he p
  cases hm with
  | comp2 hdis hMT1 hMT2 cs m1 m2 hel =>
    rw [eval_ListComp]
    refine ob_elim he fun x H1 e1 he => bd_elim he fun items e3 he => ob_elim he fun l H3 e4 he => ?_
    refine comp_ok (use := none) (gn := .plain) (pb := .k .none) (q := false) (pc := .k .none) (em := emTwo _ _) G turn_two (.inl rfl) hMT1 cs (.plain m1 rfl) .none ha (ev_k .none) (plain_of (ev_k .none) rfl) (fun so2 ow2 hD => emit_two G hb hpe m2 hel hMT2 so2 ow2 ao hD)
      (fun v ρ' hbd x hx => (bind_other hbd (tgDis_not hdis hx)).trans (clear_free cs hMT2 hx)) so ao st er e1 rfl e3 e4 he fun h' tk φ' C mC val u st' lo hC rv => ⟨mC, lo.ns, fun h'' hs => ?_⟩
    obtain ⟨u2, st2, vr, _⟩ := letgo u st' lo hC (by obtain ⟨o, _, _, e, _⟩ := st.l.ns; exact ⟨o, e⟩) hs
    exact p val h'' tk φ' u2 st2 (vr rv)


theorem tr_typeIs (G : GF c) {n l : Bool} {a : PE} (ha : EvOk c prog w kw N Φ k a) : TrOk c prog w kw N Φ k (.typeIs n l a) := by
  intro sc e hm g env A E s φ H m ρ r b H' Q so ao st er he ht p
  have hq := ev_typeIs (prog := prog) (w := w) (Φ := Φ) (k := k) G ha hm (A := A) (E := E) (Q := fun v s₁ => wpAny (model prog w) A (truthy v) Q E s₁) so ao st er he fun v1 h1 t1 φ1 u1 st1 r1 => truth_ok ht r1 fun tk => p _ _ _ u1 st1
  cases hm with
  | typeIs m1 => exact isTrue_of_cmp hq

structure Both (c : Cx) (prog : Program) (w : World) (kw : Nat → List Str) (N : List Str) (Φ : Fns) (k : Nat) (p : PE) : Prop where
  e : EvOk c prog w kw N Φ k p
  t : TrOk c prog w kw N Φ k p
theorem both_of {p : PE} (h : kP p = 3) (e : EvOk c prog w kw N Φ k p) : Both c prog w kw N Φ k p := ⟨e, plain_of e h⟩
theorem all_both (G : GF c) (S : SearchOk c prog w) (P : PhiOk c prog w kw Φ k) (p : PE) : Both c prog w kw N Φ k p :=
  @PE.rec (fun p => Both c prog w kw N Φ k p) (fun l => EachOk c prog w kw N Φ k l ∧ EachTr c prog w kw N Φ k l)
    (fun v => both_of rfl (ev_k v)) (fun x => both_of rfl (ev_var x)) (fun x v => both_of rfl (ev_glob G x v))
    (fun _ _ _ a b => both_of rfl (ev_bin a.e b.e)) (fun _ _ _ a b => both_of rfl (ev_rep a.e b.e)) (fun _ _ _ a b => ⟨ev_cmp a.e b.e, tr_cmp a.e b.e⟩)
    (fun _ _ a => ⟨ev_isNone G a.e, tr_isNone G a.e⟩) (fun _ _ _ a => ⟨ev_typeIs G a.e, tr_typeIs G a.e⟩) (fun _ l => ⟨ev_and l.1.and, tr_and l.2.and⟩) (fun _ l => ⟨ev_or l.1.or, tr_or l.2.or⟩)
    (fun _ a => ⟨ev_not a.e, tr_not a.t⟩) (fun _ a => ⟨ev_neg a.e, tr_of (ev_neg a.e) fun hm env whole => by cases hm; rfl⟩) (fun _ _ _ x a b => ⟨ev_ite x.t a.e b.e, tr_ite x.t a.t b.t⟩)
    (fun _ _ a b => both_of rfl (ev_idx a.e b.e)) (fun _ _ _ a l h => both_of rfl (ev_sl a.e l.e h.e)) (fun _ l => both_of rfl (ev_tup l.1.evs)) (fun _ _ l => both_of rfl (ev_lst l.1.evs))
    (fun _ _ _ _ _ _ _ _ _ x a b y => ⟨ev_comp G a.e b.e y.t x.e, tr_of (ev_comp G a.e b.e y.t x.e) fun hm env whole => compOf hm.kind env whole⟩)
    (fun _ _ _ _ _ _ x a b => ⟨ev_comp2 G a.e b.e x.e, tr_of (ev_comp2 G a.e b.e x.e) fun hm env whole => compOf hm.kind env whole⟩)
    (fun _ _ l => both_of rfl (ev_call G P l.1)) (fun _ _ a => both_of rfl (ev_b1 G a.e)) (fun _ _ _ a b => both_of rfl (ev_b2 G S a.e b.e)) (fun _ _ _ _ x y z => both_of rfl (ev_lrange G x.e y.e z.e)) (fun _ a => both_of rfl (ev_hdrs G a.e))
    ⟨trivial, trivial⟩ (fun _ _ a l => ⟨⟨a.e, l.1⟩, ⟨a.t, l.2⟩⟩) p
theorem all_ev (G : GF c) (S : SearchOk c prog w) (P : PhiOk c prog w kw Φ k) (p : PE) : EvOk c prog w kw N Φ k p := (all_both G S P p).e
theorem all_tr (G : GF c) (S : SearchOk c prog w) (P : PhiOk c prog w kw Φ k) (p : PE) : TrOk c prog w kw N Φ k p := (all_both G S P p).t
end
end Mine

-- M25
set_option autoImplicit false
set_option maxRecDepth 100000
namespace Mine
open PySem PySem.W PyProof.Rows

inductive SAssign (c : Cx) (kw : Nat → List Str) (N : List Str) (sc : Scope) (x : Nat) (a : PE) : Stmt → Prop
  | assign {id p e pos} : N[x]? = some id → (sc.names.lookup id = some .local ∨ sc.names.lookup id = some .cell) → id ≠ hkey → (isC2 a = false ∨ sc.names.lookup id = some .cell) → ME c kw N sc e a → SAssign c kw N sc x a (.Assign [.Name id p] e pos)
inductive SAssign2 (c : Cx) (kw : Nat → List Str) (N : List Str) (sc : Scope) (x y : Nat) (a : PE) : Stmt → Prop
  | assign2 {i1 p1 i2 p2 e pos} : N[x]? = some i1 → (sc.names.lookup i1 = some .local ∨ sc.names.lookup i1 = some .cell) → i1 ≠ hkey → N[y]? = some i2 → (sc.names.lookup i2 = some .local ∨ sc.names.lookup i2 = some .cell) → i2 ≠ hkey → ME c kw N sc e a →
      SAssign2 c kw N sc x y a (.Assign [.Name i1 p1, .Name i2 p2] e pos)
inductive STup (c : Cx) (kw : Nat → List Str) (N : List Str) (sc : Scope) (x y : Nat) (a : PE) : Stmt → Prop
  | tup {i1 p1 i2 p2 k tp e pos} : N[x]? = some i1 → (sc.names.lookup i1 = some .local ∨ sc.names.lookup i1 = some .cell) → i1 ≠ hkey → N[y]? = some i2 → (sc.names.lookup i2 = some .local ∨ sc.names.lookup i2 = some .cell) → i2 ≠ hkey → x ≠ y → ME c kw N sc e a →
      (∀ env : Env, env.scope = sc → swappedStores [.Tuple [.Name i1 p1, .Name i2 p2] k tp] e env = pure none ∨ swappedStores [.Tuple [.Name i1 p1, .Name i2 p2] k tp] e env = pure (some [i1, i2])) →
      STup c kw N sc x y a (.Assign [.Tuple [.Name i1 p1, .Name i2 p2] k tp] e pos)
inductive SSub (c : Cx) (kw : Nat → List Str) (N : List Str) (sc : Scope) (po pi pe : PE) : Stmt → Prop
  | sub {o i p e pos} : ME c kw N sc o po → ME c kw N sc i pi → ME c kw N sc e pe → SSub c kw N sc po pi pe (.Assign [.Subscript o i p] e pos)
inductive SAug (c : Cx) (kw : Nat → List Str) (N : List Str) (sc : Scope) (x : Nat) (op : BOp) (a : PE) : Stmt → Prop
  | aug {id p e pos} : N[x]? = some id → (sc.names.lookup id = some .local ∨ sc.names.lookup id = some .cell) → id ≠ hkey → (id == ("__classdict__" : Str)) = false → ME c kw N sc e a → SAug c kw N sc x op a (.AugAssign (.Name id p) (bopOf op) e pos)
inductive SRet (c : Cx) (kw : Nat → List Str) (N : List Str) (sc : Scope) (a : PE) : Stmt → Prop
  | ret {e pos} : ME c kw N sc e a → SRet c kw N sc a (.Return (some e) pos)
inductive SExpr (c : Cx) (kw : Nat → List Str) (N : List Str) (sc : Scope) (a : PE) : Stmt → Prop
  | expr {e pos} : ME c kw N sc e a → SExpr c kw N sc a (.Expr e pos)
inductive SAppend (c : Cx) (kw : Nat → List Str) (N : List Str) (sc : Scope) (po pe : PE) : Stmt → Prop
  | append {o name ap e p2 pos} : (∀ env w, attributeBase o name env w = w) → (ap.endLine == p2.line) = true → name = ("append" : Str) → ME c kw N sc o po → ME c kw N sc e pe → SAppend c kw N sc po pe (.Expr (.Call (.Attribute o name ap) [e] [] p2) pos)
inductive SIfs (c : Cx) (kw : Nat → List Str) (N : List Str) (sc : Scope) (pt : PE) (A B : List Stmt → Prop) : Stmt → Prop
  | ifs {t b o pos} : ME c kw N sc t pt → A b → B o → SIfs c kw N sc pt A B (.If t b o pos)
inductive SLoop (c : Cx) (kw : Nat → List Str) (N : List Str) (sc : Scope) (t : Tgt) (pa pb : PE) (B : List Stmt → Prop) : Gn → Stmt → Prop
  | loop {target iter body pos} : MT N t sc target → MG c kw N sc .plain iter pa pb → B body → SLoop c kw N sc t pa pb B .plain (.For target iter body [] pos)
inductive SWhile (c : Cx) (kw : Nat → List Str) (N : List Str) (sc : Scope) (pt : PE) (B : List Stmt → Prop) : Stmt → Prop
  | while {test body pos} : ME c kw N sc test pt → B body → SWhile c kw N sc pt B (.While test body [] pos)
inductive SCons (A : Stmt → Prop) (B : List Stmt → Prop) : List Stmt → Prop
  | cons {x r} : A x → B r → SCons A B (x :: r)
inductive SNil : List Stmt → Prop
  | nil : SNil []

mutual
noncomputable def MS (c : Cx) (kw : Nat → List Str) (N : List Str) (sc : Scope) (x : Stmt) (p : PS) : Prop := match p with
  | .assign i a => SAssign c kw N sc i a x
  | .assign2 i j a => SAssign2 c kw N sc i j a x
  | .tup i j a => STup c kw N sc i j a x
  | .sub o i a => SSub c kw N sc o i a x
  | .aug i op a => SAug c kw N sc i op a x
  | .ret a => SRet c kw N sc a x
  | .expr a => SExpr c kw N sc a x
  | .append o a => SAppend c kw N sc o a x
  | .ifs t a b => SIfs c kw N sc t (fun l => MSs c kw N sc l a) (fun l => MSs c kw N sc l b) x
  | .loop t g a b body => SLoop c kw N sc t a b (fun l => MSs c kw N sc l body) g x
  | .while _ t body => SWhile c kw N sc t (fun l => MSs c kw N sc l body) x
  | .dead => True
noncomputable def MSs (c : Cx) (kw : Nat → List Str) (N : List Str) (sc : Scope) (xs : List Stmt) (ps : PSs) : Prop := match ps with
  | .nil => SNil xs
  | .cons p r => SCons (fun x => MS c kw N sc x p) (fun l => MSs c kw N sc l r) xs
end

theorem ScOk.self {env : Env} {sc : Scope} (h : env.scope = sc) : ScOk env sc := by
  subst h
  exact ⟨fun _ e => e, fun _ e => e, fun _ e => .inl e, fun _ e => e⟩

section
variable {c : Cx} {prog : Program} {w : World} {kw : Nat → List Str} {N : List Str} {Φ : Fns} {k : Nat}

noncomputable def PostF (c : Cx) (N : List Str) (sc : Scope) (env : Env) (φ : List Addr) (s : Shared) (fl : Fl) (ρ' : En) (H' : Hp) (Q : Flow → Shared → Prop) : Prop :=
  ∀ h' tk φ' m', UpS sc env s.heap φ h' φ' → St c φ' H' env.locals m' h' → ERel c N h' φ' env m' ρ' →
    match fl with
    | .nx => Q .next (sht s h' tk)
    | .rt v => ∀ val, VRel c h' φ' v val → Q (.ret val) (sht s h' tk)

noncomputable def StOk (c : Cx) (prog : Program) (w : World) (kw : Nat → List Str) (N : List Str) (Φ : Fns) (k : Nat) (p : PS) : Prop :=
  ∀ {sc : Scope} {x : Stmt}, MS c kw N sc x p → ∀ {g : List Addr} {env : Env} {A : Around} {E : Value → Shared → Prop} {s : Shared} {φ : List Addr} {H : Hp} {m : Str → Option Value} {ρ : En} {fl : Fl} {ρ' : En} {H' : Hp} {Q : Flow → Shared → Prop},
    env.scope = sc → Own c sc env → AOk A k → St (c.wg g) φ H env.locals m s.heap → ERel (c.wg g) N s.heap φ env m ρ → ex Φ p ρ H = some (fl, ρ', H') → PostF (c.wg g) N sc env φ s fl ρ' H' Q → wpAny (model prog w) A (exec x env) Q E s
noncomputable def StsOk (c : Cx) (prog : Program) (w : World) (kw : Nat → List Str) (N : List Str) (Φ : Fns) (k : Nat) (p : PSs) : Prop :=
  ∀ {sc : Scope} {xs : List Stmt}, MSs c kw N sc xs p → ∀ {g : List Addr} {env : Env} {A : Around} {E : Value → Shared → Prop} {s : Shared} {φ : List Addr} {H : Hp} {m : Str → Option Value} {ρ : En} {fl : Fl} {ρ' : En} {H' : Hp} {Q : Flow → Shared → Prop},
    env.scope = sc → Own c sc env → AOk A k → St (c.wg g) φ H env.locals m s.heap → ERel (c.wg g) N s.heap φ env m ρ → exs Φ p ρ H = some (fl, ρ', H') → PostF (c.wg g) N sc env φ s fl ρ' H' Q → wpAny (model prog w) A (execs xs env) Q E s

theorem PostF.after {c : Cx} {sc : Scope} {env : Env} {φ φ1 : List Addr} {s : Shared} {fl : Fl} {ρ' ρ1 : En} {H' H1 : Hp} {m1 : Str → Option Value} {Q : Flow → Shared → Prop} {h1 : Heap} {t1 : Nat} (p : PostF c N sc env φ s fl ρ' H' Q) (hsc : env.scope = sc) (u : UpS sc env s.heap φ h1 φ1)
    (st : St c φ1 H1 env.locals m1 h1) (er : ERel c N h1 φ1 env m1 ρ1) : PostF c N sc env φ1 (sht s h1 t1) fl ρ' H' Q :=
  fun h' tk φ' m' u' st' er' => p h' tk φ' m' (u.trans (.self hsc) st er u') st' er'

theorem sts_nil : StsOk c prog w kw N Φ k .nil := by
  intro sc xs hm g env A E s φ H m ρ fl ρ' H' Q hsc ow ao st er he p
  cases hm
  obtain ⟨rfl, rfl, rfl⟩ := some3 he
  exact wpAny_execs_nil (p s.heap s.toks φ m .refl st er)
theorem sts_cons {a : PS} {l : PSs} (ha : StOk c prog w kw N Φ k a) (hl : StsOk c prog w kw N Φ k l) : StsOk c prog w kw N Φ k (.cons a l) := by
  intro sc xs hm g env A E s φ H m ρ fl ρ' H' Q hsc ow ao st er he p
  cases hm with
  | cons m1 m2 =>
    refine obx_elim he (fun ρ1 H1 h1 he => ?_) fun v ρ1 H1 h1 he => ?_
    · exact wpAny_execs_cons (ha m1 hsc ow ao st er h1 fun h2 t2 φ2 m2' u2 st2 er2 => hl m2 hsc ow ao st2 er2 he (p.after hsc u2 st2 er2))
    · obtain ⟨rfl, rfl, rfl⟩ := some3 he
      exact wpAny_execs_cons (ha m1 hsc ow ao st er h1 fun h2 t2 φ2 m2' u2 st2 er2 => p h2 t2 φ2 m2' u2 st2 er2)

theorem swaps_ME {sc : Scope} {e : Expr} {p : PE} (hm : ME c kw N sc e p) (x : Str) (px : Pos) (line : Nat) (env : Env) (hc2 : isC2 p = false ∨ env.kindOf x = some .cell) :
    swapsWith e (some (.Name x px)) line env = pure false ∨ (swapsWith e (some (.Name x px)) line env = pure true ∧ ∃ mu pe t gn pa pb cls q pc, p = .comp mu pe t gn pa pb cls q pc) := by
  by_cases h : kP p = 2
  · rcases comp_of h with h2 | h2
    rotate_left
    · rw [h2] at hc2
      have hk := hc2.resolve_left nofun
      obtain ⟨_, _, _, pos, rfl⟩ := lc_of (hm.kind.trans h)
      refine .inl ?_
      show (pure (env.blockKind == .function && env.kindOf x == some .local && px.line == pos.line && _) : Sem Bool) = _
      rw [hk, show (some NameKind.cell == some NameKind.local) = false from rfl, Bool.and_false, Bool.false_and, Bool.false_and]
    have h3 := h2
    obtain ⟨mu, pe, t, gn, pa, pb, cls, q, pc, rfl⟩ := h3
    cases hm
    rename_i elt target iter ifs sc2 pos _ _ _ _ _ _
    have e0 : swapsWith (.ListComp elt [⟨target, iter, ifs, 0⟩] sc2 pos) (some (.Name x px)) line env = pure (env.blockKind == .function && env.kindOf x == some .local && px.line == pos.line && !(sc2.names.any fun (n, k) => n == x && (k == .local || k == .cell))) := rfl
    rw [e0]
    cases (env.blockKind == .function && env.kindOf x == some .local && px.line == pos.line && !(sc2.names.any fun (n, k) => n == x && (k == .local || k == .cell)))
    · exact .inl rfl
    · exact .inr ⟨rfl, h2⟩
  · exact .inl (swOf hm.pos (fun q => h (hm.kind.symm.trans q)) _ _ _)

theorem st_assign (G : GF c) (AE : ∀ p, EvOk c prog w kw N Φ k p) (AT : ∀ p, TrOk c prog w kw N Φ k p) {x : Nat} {a : PE} : StOk c prog w kw N Φ k (.assign x a) := by
  intro sc xx hm g env A E s φ H m ρ fl ρ' H' Q hsc ow ao st er he p
  have so := ScOk.self hsc
  cases hm with
  | assign hN hk hne hc2 m1 =>
    rename_i id pp e pos
    refine ob_elim he fun v H1 e1 he => ?_
    obtain ⟨rfl, rfl, rfl⟩ := some3 he
    rcases swaps_ME m1 id pp pos.line env (hc2.imp_right (so.cel _)) with hs | ⟨hs, mu, pe, t, gn, pa, pb, cls, q, pc, rfl⟩
    · refine wpAny_Assign_Name (AE a m1 so ao st er e1 fun v1 h1 t1 φ1 u1 st1 r1 => ?_) hs
      have er1 := er.up st u1
      exact store_ok (c := (c.wg g)) (s := (sht s h1 t1)) so ow st1 er1 hN hk hne r1 fun h2 t2 m2 u2 st2 er2 => p h2 t2 φ1 m2 ((Up.toS u1).trans so st1 er1 u2) st2 er2
    · cases m1 with
      | comp htt hMT cs hg hif hel =>
        rename_i elt target iter ifs sc2 cpos
        rw [exec_Assign_Name_used _ _ _ _ hs]
        refine wpAny_bind (wpAny_standAt (wpAny_bind ?_))
        show wpAny _ A (do let _ ← comprehension (.ListComp elt [⟨target, iter, ifs, 0⟩] sc2 cpos) sc2 env _ (newList []) false (eval iter env) (some (assign (.Name id pp) env))) _ _ s
        refine ob_elim e1 fun x1 H2 e1 he => ob_elim he fun y1 H3 e2 he => bd_elim he fun items e3 he => ob_elim he fun l1 H4 e4 he => ?_
        refine wpAny_bind (wpAny_mono (comp_ok (use := some (assign (.Name id pp) env)) (Q := fun _ s' => Q .next s') (em := emOne _) G (fun _ _ _ => rfl) htt hMT cs hg hif (AE _) (AE _) (AT _) (fun so2 ow2 hD => emit_one (AE _) hel so2 ao hD) (fun _ _ _ => trivial) so ao st er e1 e2 e3 e4 he fun h' tk φ' C mC val u st' lo hC rv => ?_) (fun _ _ x => wpAny_pure (wpAny_pure x)) fun _ _ x => x)
        have er' := er.up st u
        have hLs : ∃ o, s.heap.get? env.locals = some o := by obtain ⟨o, _, _, e, _⟩ := st.l.ns; exact ⟨o, e⟩
        have nCL : C ≠ env.locals := fun q => by obtain ⟨o, e⟩ := hLs; rw [← q, hC] at e; cases e
        refine wpAny_assign_Name (store_ok (c := (c.wg g)) (s := (sht s h' tk)) so ow st' er' hN hk hne rv fun h2 t2 m2 u2 st2 er2 => ?_)
        have hCns : h2.Ns C mC := lo.ns.at' fun o e => u2.keep C o e (Lo.notCell (c := (c.wg g)) ⟨lo.ns, lo.nk, lo.above⟩ st'.w) nCL fun x hx hc => by
          obtain ⟨a', y, e1, o', e2, e3⟩ := er'.has x (.inl (so.cel x hx))
          rw [hc] at e1; cases e1
          obtain ⟨o2, es, ep, e4, h1, _⟩ := lo.ns
          rw [e4] at e2; cases e2
          rw [h1] at e3; cases e3
        refine ⟨mC, hCns, fun h3 hs3 => ?_⟩
        have uS : UpS sc env s.heap φ h2 φ' := (Up.toS u).trans so st' er' u2
        have kk : KeepL C h2 h3 := fun a o e n => (hs3.2 a n).trans e
        have lo2 : Lo (c.wg g) C mC h2 := ⟨hCns, lo.nk, lo.above⟩
        have cellK : ∀ {a : Addr} {y : Option Value}, h2.IsCell a y → h3.IsCell a y := fun {a y} ⟨o, e, d⟩ => ⟨o, kk a o e (fun q => by
          obtain ⟨o', es, ep, es', h1, _⟩ := hCns
          rw [← q, e] at es'; cases es'
          rw [h1] at d; cases d), d⟩
        refine p h3 t2 φ' m2 ⟨uS.ext, fun a o e n1 n2 n3 => kk a o (uS.keep a o e n1 n2 n3) fun q => by rw [q, hC] at e; cases e⟩ ⟨st2.w.keepL lo2 kk, st2.l.ns.at' fun o e => kk _ o e (Ne.symm nCL), st2.l.nk, st2.l.above⟩ ?_
        exact ⟨er2.nd, er2.fn, er2.gl, er2.bi, fun i v id e n q => let ⟨y, h1, h2⟩ := er2.loc i v id e n q; ⟨y, h1, h2.keepL st2.w lo2 kk⟩, fun i v id e n q => let ⟨a, y, h1, h2, h3⟩ := er2.cel i v id e n q; ⟨a, y, h1, cellK h2, h3.keepL st2.w lo2 kk⟩,
          fun i q => let ⟨a, y, h1, h2⟩ := er2.has i q; ⟨a, y, h1, cellK h2⟩, er2.dis⟩
end
end Mine

-- M26
set_option autoImplicit false
set_option maxRecDepth 100000
namespace Mine
open PySem PySem.W PyProof.Rows

section
variable {prog : Program} {w : World} {A : Around} {E : Value → Shared → Prop} {s : Shared}
theorem setItem_plain {l : Addr} {xs : List Value} {n : Nat} {k : Int} {t : Tok} {v : Value} {Q : Unit → Shared → Prop} (ho : s.heap.get? l = some (lobj xs n)) (h0 : 0 ≤ k) (hfit : k < 2 ^ 63) (hn : k < xs.length)
    (hQ : ∀ h' i, h'.get? l = some (lobj (xs.set k.toNat v) i) → Heap.SameBut l s.heap h' → Q () { s with heap := h' }) : wpAny (model prog w) A (setItem (.ref l) (.int k t) v) Q E s := by
  have hl := isList_of ho
  unfold setItem
  try with_reducible refine wpAny_holding ?_
  first | refine wpAny_bind (wpAny_pure ?_) | skip
  refine wpAny_bind (wpAny_sequenceKey hl.typeIs (by decide) ?_)
  refine wpAny_bind (wpAny_callSpecial?_slot (name := Str.ofString "__setitem__") hl.typeIs slot_list_setitem
    (wpAny_call_entry slot_list_setitem hl.typeIs entry_list_setitem ?_ (args_list_setitem _ _ _)))
  show wpAny _ _ (Builtin.List.listSubscript? (.int k t) >>= _) _ _ s
  refine wpAny_bind (wpAny_listSubscript_int (fitsIndex_of h0 hfit) ?_)
  clear hfit
  obtain ⟨j, rfl⟩ := Int.eq_ofNat_of_zero_le h0
  have hj : j < xs.toArray.size := by rw [List.size_toArray]; omega
  have hx' : xs.toArray[j]? = some xs.toArray[j] := Array.getElem?_eq_getElem hj
  show wpAny _ _ ((seqItemAt l j >>= fun r => pure (r.map (j, ·))) >>= _) _ _ s
  refine wpAny_bind (wpAny_bind (wpAny_seqItemAt ho rfl (wpAny_pure ?_)))
  rw [hx']
  show wpAny _ _ (setSeqItemAt l j v >>= _) _ _ s
  obtain ⟨i, hi⟩ := mapSeq_lobj xs n (·.setIfInBounds j v)
  have hfin : (s.heap.update l (Obj.mapSeq (·.setIfInBounds j v))).get? l = some (lobj (xs.set j v) i) := by
    rw [Heap.get?_update_self _ ho (by rw [hi]; rfl), hi]
    simp
  refine wpAny_bind (wpAny_setSeqItemAt ho rfl ?_)
  first
    | exact wpAny_bind (wpAny_pure (wpAny_pure ⟨.none, rfl, wpAny_pure (hQ _ i hfin (Heap.SameBut.update ..))⟩))
    | exact wpAny_pure ⟨.none, rfl, wpAny_pure (hQ _ i hfin (Heap.SameBut.update ..))⟩
end

section
variable {c : Cx} {prog : Program} {w : World} {kw : Nat → List Str} {N : List Str} {Φ : Fns} {k : Nat}

theorem swapsSole_ME {sc : Scope} {e : Expr} {p : PE} (hm : ME c kw N sc e p) (t : Expr) (ht : ∀ x g s p line env, swapsWith (.ListComp x g s p) (some t) line env = pure false) (line : Nat) (env : Env) : swapsWith e (some t) line env = pure false := by
  by_cases h : kE e = 2
  · obtain ⟨_, _, _, _, rfl⟩ := lc_of h; exact ht _ _ _ _ _ _
  · exact swOf hm.pos h _ _ _

theorem st_assign2 (G : GF c) (AE : ∀ p, EvOk c prog w kw N Φ k p) {x y : Nat} {a : PE} : StOk c prog w kw N Φ k (.assign2 x y a) := by
  intro sc xx hm g env A E s φ H m ρ fl ρ' H' Q hsc ow ao st er he p
  have so := ScOk.self hsc
  cases hm with
  | assign2 hN hk hne hN' hk' hne' m1 =>
    refine ob_elim he fun v H1 e1 he => ?_
    obtain ⟨rfl, rfl, rfl⟩ := some3 he
    refine wpAny_Assign_two (AE a m1 so ao st er e1 fun v1 h1 t1 φ1 u1 st1 r1 => ?_) rfl rfl
    have er1 := er.up st u1
    refine wpAny_assign_Name (store_ok (c := (c.wg g)) (s := (sht s h1 t1)) so ow st1 er1 hN hk hne r1 fun h2 t2 m2 u2 st2 er2 => ?_)
    refine wpAny_assign_Name (store_ok (c := (c.wg g)) (s := (sht s h2 t2)) so ow st2 er2 hN' hk' hne' (r1.upS so st1 er1 u2) fun h3 t3 m3 u3 st3 er3 => ?_)
    exact p h3 t3 φ1 m3 (((Up.toS u1).trans so st1 er1 u2).trans so st2 er2 u3) st3 er3

theorem set_comm' {ρ : En} {x y : Nat} {a b : V} (h : x ≠ y) : (ρ.set x (some a)).set y (some b) = (ρ.set y (some b)).set x (some a) := List.set_comm _ _ h

theorem ex_tup {x y : Nat} {e : PE} {ρ : En} {H : Hp} : ex Φ (.tup x y e) ρ H = obP (ev Φ e ρ H) fun a b H => some (.nx, (ρ.set x (some a)).set y (some b), H) := rfl
theorem st_tup (G : GF c) (AE : ∀ p, EvOk c prog w kw N Φ k p) {x y : Nat} {a : PE} : StOk c prog w kw N Φ k (.tup x y a) := by
  intro sc xx hm g env A E s φ H m ρ fl ρ' H' Q hsc ow ao st er he p
  have so := ScOk.self hsc
  cases hm with
  | tup hN hk hne hN' hk' hne' hxy m1 hsw =>
    rename_i i1 p1 i2 p2 kk tp e pos
    refine obP_elim (ex_tup.symm.trans he) fun va vb H1 e1 he => ?_
    obtain ⟨rfl, rfl, rfl⟩ := some3 he
    have hs : swapsWithSole [.Tuple [.Name i1 p1, .Name i2 p2] kk tp] e pos.line env = pure false := by
      show swapsWith e (some (.Tuple [.Name i1 p1, .Name i2 p2] kk tp)) pos.line env = pure false
      exact swapsSole_ME m1 _ (fun _ _ _ _ _ _ => rfl) _ _
    rcases hsw env hsc with hw | hw
    · refine Assign_Tuple (AE a m1 so ao st er e1 fun v1 h1 t1 φ1 u1 st1 r1 => ?_) hs hw
      have er1 := er.up st u1
      refine target_ok (c := (c.wg g)) (s := (sht s h1 t1)) (t := .two x y) (.two hN hk hne hN' hk' hne') ao.hh so ow st1 er1 r1 rfl fun h2 t2 m2 u2 st2 er2 => ?_
      exact p h2 t2 φ1 m2 ((Up.toS u1).trans so st1 er1 u2) st2 er2
    · refine Assign_Tuple_swapped (AE a m1 so ao st er e1 fun v1 h1 t1 φ1 u1 st1 r1 => ?_) hs hw
      have er1 := er.up st u1
      obtain ⟨T, xs, n, rfl, g1, _, r⟩ := r1
      obtain ⟨q1, xs, rfl, ra, r⟩ := r
      obtain ⟨q2, xs, rfl, rb, r⟩ := r
      cases r
      show wpAny _ A (unpackItems (.ref T) (#[q1, q2] : Array Value).size none) _ E _
      refine wpAny_unpackItems_tuple (items := #[q1, q2]) ao.hh (isTup_of g1) fun h₁ he₁ => ?_
      have kk : KeepA h1 h₁ := fun b o e => he₁ b o (Nat.ne_of_lt (Heap.lt_size e)) e
      have st2 := st1.ext kk
      have uu : Up env.locals h1 φ1 h₁ φ1 := .of_keepL (.of kk)
      have er2 := er1.up st1 uu
      show wpAny _ _ (assignInOrder [fun v => bindName env i2 v, fun v => bindName env i1 v] [q2, q1]) _ _ _
      refine assignInOrder_cons (wpAny_bindName (store_ok (c := (c.wg g)) (s := (sht s h₁ t1)) so ow st2 er2 hN' hk' hne' (rb.keepL st1.w st1.l (.of kk)) fun h3 t3 m3 u3 st3 er3 => ?_))
      refine assignInOrder_cons (wpAny_bindName (store_ok (c := (c.wg g)) (s := (sht s h3 t3)) so ow st3 er3 hN hk hne ((ra.keepL st1.w st1.l (.of kk)).upS so st2 er2 u3) fun h4 t4 m4 u4 st4 er4 => assignInOrder_nil ?_))
      rw [← set_comm' hxy] at er4
      exact p h4 t4 φ1 m4 (((Up.toS (u1.trans st1.w st1.l uu)).trans so st2 er2 u3).trans so st3 er3 u4) st4 er4

theorem cell_write {g : List Addr} {env : Env} {φ : List Addr} {H : Hp} {m : Str → Option Value} {ρ : En} {h h' : Heap} {n : Nat} {a : Addr} {xs : List Value} {i : Nat} {l : List V} (st : St (c.wg g) φ H env.locals m h) (er : ERel (c.wg g) N h φ env m ρ)
    (hk : φ[n]? = some a) (hs : Heap.SameBut a h h') (ha : h'.get? a = some (lobj xs i)) (r : VRels (c.wg g) h φ l xs) :
    Up env.locals h φ h' φ ∧ St (c.wg g) φ (H.set n l) env.locals m h' ∧ ERel (c.wg g) N h' φ env m ρ := by
  obtain ⟨w', u⟩ := st.w.setCell st.l hk (fun b o e n1 _ => (hs.2 b n1).trans e) ha r
  have aL : env.locals ≠ a := fun q => st.l.notCell st.w (q ▸ List.mem_of_getElem? hk)
  exact ⟨u, ⟨w', st.l.ns.at' fun o e => (hs.2 _ aL).trans e, st.l.nk, st.l.above⟩, er.up st u⟩

theorem st_sub (G : GF c) (AE : ∀ p, EvOk c prog w kw N Φ k p) {o i e : PE} : StOk c prog w kw N Φ k (.sub o i e) := by
  intro sc xx hm g env A E s φ H m ρ fl ρ' H' Q hsc ow ao st er he p
  have so := ScOk.self hsc
  cases hm with
  | sub m1 m2 m3 =>
    refine ob_elim he fun v H1 e1 he => obC_elim he fun n H2 e2 he => obI_elim he fun j H3 e3 he => ?_
    obtain ⟨l, hl, he⟩ := bindsome he
    obtain ⟨hj, he⟩ := ifsome he
    obtain ⟨rfl, rfl, rfl⟩ := some3 he
    refine wpAny_Assign_Subscript (AE _ m3 so ao st er e1 fun v1 h1 t1 φ1 u1 st1 r1 => AE _ m1 so ao st1 (er.up st u1) e2 fun v2 h2 t2 φ2 u2 st2 r2 => AE _ m2 so ao st2 ((er.up st u1).up st1 u2) e3 fun v3 h3 t3 φ3 u3 st3 r3 => ?_) (swapsSole_ME m3 _ (fun _ _ _ _ _ _ => rfl) _ _)
    obtain ⟨t, rfl⟩ := r3
    have r1' := (r1.up st1.w st1.l u2).up st2.w st2.l u3
    obtain ⟨a, rfl, ha⟩ := r2.up st2.w st2.l u3
    obtain ⟨b, xs, q, hb, hg, rs⟩ := st3.w.cells n l hl
    rw [ha] at hb; cases hb
    have er3 := ((er.up st u1).up st1 u2).up st2 u3
    refine setItem_plain (s := (sht s h3 t3)) hg hj.1 (by have := hj.2; omega) (by rw [rs.length]; exact hj.2.1) fun h4 q4 hg4 hs4 => ?_
    obtain ⟨u4, st4, er4⟩ := cell_write st3 er3 ha hs4 hg4 (rs.set j.toNat r1')
    exact p h4 t3 φ3 m (Up.toS (((u1.trans st1.w st1.l u2).trans st2.w st2.l u3).trans st3.w st3.l u4)) st4 er4
end
end Mine

-- M27
set_option autoImplicit false
set_option maxRecDepth 100000
namespace Mine
open PySem PySem.W PyProof.Rows

section
variable {c : Cx} {prog : Program} {w : World} {kw : Nat → List Str} {N : List Str} {Φ : Fns} {k : Nat}

theorem st_ret (G : GF c) (AE : ∀ p, EvOk c prog w kw N Φ k p) {a : PE} : StOk c prog w kw N Φ k (.ret a) := by
  intro sc xx hm g env A E s φ H m ρ fl ρ' H' Q hsc ow ao st er he p
  have so := ScOk.self hsc
  cases hm with
  | ret m1 =>
    refine ob_elim he fun v H1 e1 he => ?_
    obtain ⟨rfl, rfl, rfl⟩ := some3 he
    exact wpAny_Return_some (AE a m1 so ao st er e1 fun v1 h1 t1 φ1 u1 st1 r1 => p h1 t1 φ1 m (Up.toS u1) st1 (er.up st u1) v1 r1)

theorem st_ifs (G : GF c) (AT : ∀ p, TrOk c prog w kw N Φ k p) {t : PE} {a b : PSs} (ha : StsOk c prog w kw N Φ k a) (hb : StsOk c prog w kw N Φ k b) : StOk c prog w kw N Φ k (.ifs t a b) := by
  intro sc xx hm g env A E s φ H m ρ fl ρ' H' Q hsc ow ao st er he p
  have so := ScOk.self hsc
  cases hm with
  | ifs m1 m2 m3 =>
    refine ob_elim he fun x H1 e1 he => ?_
    refine obT_elim he (fun hx he => ?_) fun hx he => ?_
    · refine wpAny_If (AT t m1 so ao st er e1 hx fun h1 t1 φ1 u1 st1 => ?_)
      rw [if_pos rfl]
      exact ha m2 hsc ow ao st1 (er.up st u1) he (p.after hsc (Up.toS u1) st1 (er.up st u1))
    · refine wpAny_If (AT t m1 so ao st er e1 hx fun h1 t1 φ1 u1 st1 => ?_)
      rw [if_neg (by decide)]
      exact hb m3 hsc ow ao st1 (er.up st u1) he (p.after hsc (Up.toS u1) st1 (er.up st u1))

theorem comp_loose {mu : Bool} {pe pa pb pc : PE} {t : Tgt} {gn : Gn} {cls : List Nat} {q : Bool} {ρ : En} {H H' : Hp} {r : V} (e : ev Φ (.comp mu pe t gn pa pb cls q pc) ρ H = some (r, H')) : looseV r = none :=
  ob_elim e fun _ _ _ e => ob_elim e fun _ _ _ e => bd_elim e fun _ _ e => ob_elim e fun l H _ e => by
    obtain ⟨_, e⟩ := ifsome (p := l.length ≤ 2 ^ 16) e
    cases mu
    · obtain ⟨rfl, _⟩ := some2 (show some (V.lst l, H) = some (r, H') from e); rfl
    · obtain ⟨rfl, _⟩ := some2 (show some (V.cell H.length, H ++ [l]) = some (r, H') from e); rfl

theorem comp2_loose {p : PE} (h : isC2 p = true) {ρ : En} {H H' : Hp} {r : V} (e : ev Φ p ρ H = some (r, H')) : looseV r = none := by
  cases p with
  | comp2 =>
    refine ob_elim e fun _ _ _ e => bd_elim e fun _ _ e => ob_elim e fun l H _ e => ?_
    obtain ⟨_, e⟩ := ifsome (p := l.length ≤ 2 ^ 16) e
    obtain ⟨rfl, _⟩ := some2 (show some (V.lst l, H) = some (r, H') from e)
    rfl
  | _ => nomatch h
theorem not_inter {env : Env} (h : env.scope.kind = .function) : interactive env = false := by
  unfold interactive
  rw [h]; rfl

theorem st_expr (G : GF c) (AE : ∀ p, EvOk c prog w kw N Φ k p) {a : PE} : StOk c prog w kw N Φ k (.expr a) := by
  intro sc xx hm g env A E s φ H m ρ fl ρ' H' Q hsc ow ao st er he p
  have so := ScOk.self hsc
  cases hm with
  | expr m1 =>
    refine ob_elim he fun v H1 e1 he => bd_elim he fun _ hv he => ?_
    obtain ⟨rfl, rfl, rfl⟩ := some3 he
    refine wpAny_Expr (AE a m1 so ao st er e1 fun v1 h1 t1 φ1 u1 st1 r1 => ?_) (not_inter er.fn) (swOf m1.pos (fun q => ?_) _ _ _)
    · have pp := p h1 t1 φ1 m (Up.toS u1) st1 (er.up st u1)
      cases v with
      | none => cases r1; exact pp
      | str => obtain ⟨t, rfl⟩ := r1; exact pp
      | _ => exact nosome hv
    rcases comp_of (m1.kind.symm.trans q) with q | q
    · obtain ⟨_, _, _, _, _, _, _, _, _, rfl⟩ := q
      rw [comp_loose e1] at hv; exact nosome hv
    · rw [comp2_loose q e1] at hv; exact nosome hv

theorem st_append (G : GF c) (AE : ∀ p, EvOk c prog w kw N Φ k p) {o e : PE} : StOk c prog w kw N Φ k (.append o e) := by
  intro sc xx hm g env A E s φ H m ρ fl ρ' H' Q hsc ow ao st er he p
  have so := ScOk.self hsc
  cases hm with
  | append hb hpos hn m1 m2 =>
    subst hn
    refine obC_elim he fun n H1 e1 he => ob_elim he fun v H2 e2 he => ?_
    obtain ⟨l, hl, he⟩ := bindsome he
    obtain ⟨hlen, he⟩ := ifsome he
    obtain ⟨rfl, rfl, rfl⟩ := some3 he
    refine wpAny_Expr (Method_ hb hpos (form_es (.cons m2 .nil) (by simp)) (AE o m1 so ao st er e1 fun v1 h1 t1 φ1 u1 st1 r1 pl => ?_)) (not_inter er.fn) rfl
    obtain ⟨a, rfl, ha⟩ := r1
    obtain ⟨xs0, n0, e0⟩ := st1.w.isL a (List.mem_of_getElem? ha)
    refine getMethod_builtin (T := "list") (isList_of e0).typeIs F.plainAttrs_list F.slot_list_append F.type_list_append (fun b hb => by cases hb; exact ⟨_, e0, rfl⟩) ?_
    refine callWith_es (P := fun _ => True) (.cons m2 .nil) (fun h _ => keeper_builtin _ h) (arg1_ok (AE e) m2 so ao st1 (er.up st u1) e2 fun v2 h2 t2 φ2 u2 st2 r2 => ⟨trivial, ?_⟩)
    have ha2 : φ2[n]? = some a := by
      obtain ⟨ψ, rfl, _⟩ := u2.ext
      rw [List.getElem?_append_left (List.getElem?_eq_some_iff.mp ha).1]; exact ha
    obtain ⟨b, xs, q, hb', hg, rs⟩ := st2.w.cells n l hl
    rw [ha2] at hb'; cases hb'
    have hsz : xs.toArray.size ≤ sizeLine := by
      rw [List.size_toArray, rs.length]
      exact Nat.le_trans hlen (by decide +kernel)
    refine wpAny_list_append_plain (s := (sht s h2 t2)) ⟨q, hg⟩ (fun h3 hp3 hs3 => ?_) hsz
    obtain ⟨k3, hg3⟩ := hp3
    rw [show xs.toArray.push v2 = (xs ++ [v2]).toArray by simp] at hg3
    obtain ⟨u3, st3, er3⟩ := cell_write st2 ((er.up st u1).up st1 u2) ha2 hs3 hg3 (rs.append (.cons r2 .nil))
    exact p h3 t2 φ2 m (Up.toS ((u1.trans st1.w st1.l u2).trans st2.w st2.l u3)) st3 er3

theorem st_aug (G : GF c) (AE : ∀ p, EvOk c prog w kw N Φ k p) {x : Nat} {op : BOp} {e : PE} : StOk c prog w kw N Φ k (.aug x op e) := by
  intro sc xx hm g env A E s φ H m ρ fl ρ' H' Q hsc ow ao st er he p
  have so := ScOk.self hsc
  cases hm with
  | aug hN hk hne hcd m1 =>
    refine bd_elim he fun a ha he => ?_
    refine ob_elim he fun b H1 e1 he => ?_
    refine ob_elim he fun v H2 e2 he => ?_
    obtain ⟨rfl, rfl, rfl⟩ := some3 he
    refine wpAny_AugAssign_Name (load_ok (c := c) so st er hN (hk.elim .inl (fun q => .inr (.inl q))) hcd ha fun y ry => ?_)
    refine AE e m1 so ao st er e1 fun v1 h1 t1 φ1 u1 st1 r1 => ?_
    have er1 := er.up st u1
    have ry1 := ry.up st.w st.l u1
    have fin : ∀ {h2 : Heap} {t2 : Nat} {z : Value}, Up env.locals h1 φ1 h2 φ1 → St (c.wg g) φ1 H2 env.locals m h2 → ERel (c.wg g) N h2 φ1 env m ρ → VRel (c.wg g) h2 φ1 v z →
        wpAny (model prog w) A (storeName env _ z) (fun _ => Q .next) E (sht s h2 t2) := fun {h2 t2 z} u2 st2 er2 rz =>
      store_ok (c := (c.wg g)) (s := (sht s h2 t2)) so ow st2 er2 hN hk hne rz fun h3 t3 m3 u3 st3 er3 => p h3 t3 φ1 m3 ((Up.toS (u1.trans st1.w st1.l u2)).trans so st2 er2 u3) st3 er3
    have twoI : ∀ {i j : Int}, a = .int i → b = .int j → ∃ t u, y = .int i t ∧ v1 = .int j u := fun q1 q2 => by
      subst q1 q2
      obtain ⟨t, rfl⟩ := ry1
      obtain ⟨u, rfl⟩ := r1
      exact ⟨t, u, rfl, rfl⟩
    cases op with
    | add =>
      have add : int2 a b (fun a b => some (V.int (a + b), H1)) = some (v, H2) → wpAny (model prog w) A (inplaceOp (bopOf .add) y v1) (fun v s => wpAny (model prog w) A (storeName env _ v) (fun _ => Q .next) E s) E (sht s h1 t1) := fun e2 => by
        obtain ⟨i, j, ha, hb, e2⟩ := int2_some e2
        obtain ⟨t, u, rfl, rfl⟩ := twoI ha hb
        obtain ⟨rfl, rfl⟩ := some2 e2
        exact P.iadd_int (fin (.refl ..) st1 er1 ⟨_, rfl⟩)
      cases a with
      | cell n =>
        obtain ⟨l, hl, e2⟩ := bindsome e2
        obtain ⟨ys, hy, e2⟩ := bindsome e2
        obtain ⟨hlen, e2⟩ := ifsome e2
        obtain ⟨rfl, rfl⟩ := some2 e2
        obtain ⟨a', rfl, ha'⟩ := ry1
        obtain ⟨b', xs, q, hb', hg, rs⟩ := st1.w.cells n l hl
        rw [ha'] at hb'; cases hb'
        obtain ⟨c', zs, q', rfl, hg', rs'⟩ := listV_ok st1.w hy r1
        refine iadd_list (s := (sht s h1 t1)) hg hg' (by rw [rs.length, rs'.length]; exact hlen) fun h2 i hi hs2 => ?_
        obtain ⟨u2, st2, er2⟩ := cell_write st1 er1 ha' hs2 hi (rs.append rs')
        exact fin u2 st2 er2 ⟨a', rfl, ha'⟩
      | _ => exact add e2
    | sub =>
      obtain ⟨i, j, ha, hb, e2⟩ := int2_some e2
      obtain ⟨t, u, rfl, rfl⟩ := twoI ha hb
      obtain ⟨rfl, rfl⟩ := some2 e2
      exact P.isub_int (fin (.refl ..) st1 er1 ⟨_, rfl⟩)
    | _ => exact nosome e2
end
end Mine

-- M28
set_option autoImplicit false
set_option maxRecDepth 100000
namespace Mine
open PySem PySem.W PyProof.Rows

section
variable {c : Cx} {prog : Program} {w : World} {kw : Nat → List Str} {N : List Str} {Φ : Fns} {k : Nat}

theorem UpS.side {sc : Scope} {env : Env} {φ φ' : List Addr} {hp h h' : Heap} {wr : List Addr} (u : UpS sc env hp φ h φ') (kk : KeepW wr h h') (hd : ∀ a ∈ wr, hp.get? a = none) : UpS sc env hp φ h' φ' :=
  ⟨u.ext, fun a o e n1 n2 n3 => kk a o (fun q => by rw [hd a q] at e; cases e) (u.keep a o e n1 n2 n3)⟩

theorem St.subgh {g g' : List Addr} {φ : List Addr} {H : Hp} {L : Addr} {m : Str → Option Value} {h : Heap} (st : St (c.wg g') φ H L m h) (hs : ∀ a ∈ g, a ∈ g') : St (c.wg g) φ H L m h :=
  st.over (wr := []) (fun a ha => by cases ha) (fun _ _ _ e => e) hs (fun a ha => by cases ha)

structure LS (c : Cx) (N : List Str) (sc : Scope) (env : Env) (hp : Heap) (φ1 : List Addr) (ρ : En) (h : Heap) (φ : List Addr) (H : Hp) (m : Str → Option Value) : Prop where
  st : St c φ H env.locals m h
  er : ERel c N h φ env m ρ
  up : UpS sc env hp φ1 h φ
section
variable {sc : Scope} {env : Env} {hp h h' : Heap} {φ1 φ φ' : List Addr} {ρ ρ' : En} {H H' : Hp} {m m' : Str → Option Value} {wr : List Addr}
theorem LS.upd (x : LS c N sc env hp φ1 ρ h φ H m) (so : ScOk env sc) (u : Up env.locals h φ h' φ') (st' : St c φ' H' env.locals m h') : LS c N sc env hp φ1 ρ h' φ' H' m := ⟨st', x.er.up x.st u, x.up.trans so x.st x.er (Up.toS u)⟩
theorem LS.updS (x : LS c N sc env hp φ1 ρ h φ H m) (so : ScOk env sc) (u : UpS sc env h φ h' φ') (st' : St c φ' H' env.locals m' h') (er' : ERel c N h' φ' env m' ρ') : LS c N sc env hp φ1 ρ' h' φ' H' m' := ⟨st', er', x.up.trans so x.st x.er u⟩
theorem LS.side (x : LS c N sc env hp φ1 ρ h φ H m) (hd : ∀ a ∈ wr, hp.get? a = none) (s1 : Sd c env.locals wr φ h) (s2 : Sd c env.locals wr φ h') (k : KeepW wr h h') : LS c N sc env hp φ1 ρ h' φ H m := ⟨x.st.side s1 s2 k, x.er.side x.st s1 k, x.up.side k hd⟩
end
inductive WhI (c : Cx) (N : List Str) (sc : Scope) (env : Env) (φ : List Addr) (s : Shared) (F : Nat → En → Hp → Option (Fl × En × Hp)) (r : Fl × En × Hp) : Nat → Shared → Prop
  | mk {n : Nat} {h' : Heap} {tk : Nat} {φ' : List Addr} {m' : Str → Option Value} {ρ1 : En} {H1 : Hp} (ls : LS c N sc env s.heap φ ρ1 h' φ' H1 m') (hw : F n ρ1 H1 = some r) : WhI c N sc env φ s F r n (sht s h' tk)

theorem st_while (G : GF c) (AT : ∀ p, TrOk c prog w kw N Φ k p) {n : Nat} {t : PE} {b : PSs} (hb : StsOk c prog w kw N Φ k b) : StOk c prog w kw N Φ k (.while n t b) := by
  intro sc xx hm g env A E s φ H m ρ fl ρ' H' Q hsc ow ao st er he p
  have so := ScOk.self hsc
  cases hm with
  | «while» m1 m2 =>
    rename_i test body pos
    have I0 : WhI (c.wg g) N sc env φ s (whileL (fun ρ H => ev Φ t ρ H) (fun ρ H => exs Φ b ρ H)) (fl, ρ', H') n (sht s (s.heap) (s.toks)) := .mk ⟨st, er, .refl⟩ he
    refine wpAny_While (codeAny_whileLoop _ (fun n s' hI => ?_) n I0)
    cases hI with
    | mk ls hw =>
    rename_i h' tk φ' m' ρ1 H1
    cases n
    · exact nosome hw
    · rename_i n
      refine ob_elim hw fun x H2 e1 hw => obT_elim hw (fun hx hw => ?_) fun hx hw => ?_
      · refine AT t m1 so ao (s := (sht s h' tk)) ls.st ls.er e1 hx fun h1 t1 φ1 u1 st1 => ?_
        rw [if_pos rfl]
        have ls1 := ls.upd so u1 st1
        refine obx_elim hw (fun ρ2 H3 e2 hw => ?_) fun v ρ2 H3 e2 hw => ?_
        · exact hb m2 hsc ow ao (s := (sht s h1 t1)) st1 ls1.er e2 fun h3 t3 φ3 m3 u3 st3 er3 => ⟨n, Nat.lt_succ_self n, .mk (ls1.updS so u3 st3 er3) hw⟩
        · obtain ⟨rfl, rfl, rfl⟩ := some3 hw
          exact hb m2 hsc ow ao (s := (sht s h1 t1)) st1 ls1.er e2 fun h3 t3 φ3 m3 u3 st3 er3 val hv => p h3 t3 φ3 m3 (ls1.updS so u3 st3 er3).up st3 er3 val hv
      · obtain ⟨rfl, rfl, rfl⟩ := some3 hw
        refine AT t m1 so ao (s := (sht s h' tk)) ls.st ls.er e1 hx fun h1 t1 φ1 u1 st1 => ?_
        rw [if_neg (by decide)]
        have ls1 := ls.upd so u1 st1
        exact wpAny_execs_nil (p h1 t1 φ1 m' ls1.up ls1.st ls1.er)

inductive ForI (c : Cx) (N : List Str) (sc : Scope) (env : Env) (hp : Heap) (φ : List Addr) (s : Shared) (items : List V) (S : Nat → List Addr → Heap → Prop) (F : List V → En → Hp → Option (Fl × En × Hp)) (r : Fl × En × Hp) : Nat → Shared → Prop
  | mk {i : Nat} {h' : Heap} {tk : Nat} {φ' : List Addr} {m' : Str → Option Value} {ρ1 : En} {H1 : Hp} (hi : i ≤ items.length) (hS : S i φ' h') (ls : LS c N sc env hp φ ρ1 h' φ' H1 m') (hw : F (items.drop i) ρ1 H1 = some r) : ForI c N sc env hp φ s items S F r (items.length + 1 - i) (sht s h' tk)

theorem for_loop {sc : Scope} {t : Tgt} {body : PSs} {target : Expr} {body' : List Stmt} {I : Addr} {wr gg g : List Addr} {items : List V} {X : V} {Hx : Hp} {S : Nat → List Addr → Heap → Prop} {Md : Nat → Value → List Addr → Heap → Prop} {env : Env} {A : Around} {s : Shared} {hp h0 : Heap} {φ φ1 : List Addr} {tk0 : Nat} {m : Str → Option Value} {ρ : En} {fl : Fl} {ρ' : En} {H' : Hp} {R : Result → Shared → Prop}
    (hb : StsOk c prog w kw N Φ k body) (T : Turns (c.wg gg) prog w A target I env.locals wr items X Hx S Md) (hMT : MT N t sc target) (m2 : MSs c kw N sc body' body) (hsc : env.scope = sc) (ow : Own c sc env) (ao : AOk A k)
    (hs : ∀ a ∈ g, a ∈ gg) (hgw : ∀ a ∈ g, a ∉ wr) (hwp : ∀ a ∈ wr, hp.get? a = none) (s0 : S 0 φ1 h0) (ls0 : LS (c.wg gg) N sc env hp φ1 ρ h0 φ1 Hx m) (he : forL (stableV X Hx) t (fun ρ H => exs Φ body ρ H) items ρ Hx = some (fl, ρ', H'))
    (base : ∀ {h : Heap} {φ2 : List Addr}, UpS sc env hp φ1 h φ2 → UpS sc env s.heap φ h φ2) (p : PostF (c.wg g) N sc env φ s fl ρ' H' fun f s' => R (.ok f) s') :
    codeAny (model prog w) A (.forLoop target (.ref I) body' [] env) R (sht s h0 tk0) := by
  have so := ScOk.self hsc
  have I0 : ForI (c.wg gg) N sc env hp φ1 s items S (forL (stableV X Hx) t (fun ρ H => exs Φ body ρ H)) (fl, ρ', H') (items.length + 1 - 0) (sht s h0 tk0) := .mk (Nat.zero_le _) s0 ls0 he
  refine codeAny_forLoop_any _ (fun n s' hI => ?_) _ I0
  cases hI with
  | mk hi hS ls hfor =>
  rename_i i h' tk φ' m' ρ1 H3
  by_cases hlt : i < items.length
  · obtain ⟨v, hv⟩ : ∃ v, items[i]? = some v := ⟨_, List.getElem?_eq_getElem hlt⟩
    rw [List.drop_eq_getElem_cons hlt, (List.getElem?_eq_some_iff.mp hv).2] at hfor
    have hn : items.length + 1 - (i + 1) < items.length + 1 - i := by omega
    obtain ⟨ρ2, hbind, hfor⟩ := bindsome hfor
    refine T.item hv hS ls.st fun xv h1 t1 hMd k1 => ?_
    have ls1 := ls.side hwp (T.sdS hS) (T.sdM hMd) k1
    refine T.go hv hMd ls1.st fun h2 hS2 rv2 k2 => ?_
    have ls2 := ls1.side hwp (T.sdM hMd) (T.sdS hS2) k2
    refine target_ok (c := (c.wg gg)) (s := (sht s h2 t1)) hMT ao.hh so ow ls2.st ls2.er rv2 hbind fun h3 t3 m3 u3 st3 er3 => ?_
    have ls3 := ls2.updS so u3 st3 er3
    refine obx_elim hfor (fun ρ4 H4 e4 hfor => ?_) fun v4 ρ4 H4 e4 hfor => ?_
    · obtain ⟨hstab, hfor⟩ := ifsome hfor
      exact hb m2 hsc ow ao (s := (sht s h3 t3)) st3 er3 e4 fun h4 t4 φ4 m4 u4 st4 er4 =>
        ⟨_, hn, .mk hlt (T.frame hS2 ls2.st (gx := []) (by simp) ((u3.trans so st3 er3 u4).toC so ls2.er) st4 hstab) (ls3.updS so u4 st4 er4) hfor⟩
    · obtain ⟨rfl, rfl, rfl⟩ := some3 hfor
      exact hb m2 hsc ow ao (s := (sht s h3 t3)) st3 er3 e4 fun h4 t4 φ4 m4 u4 st4 er4 val hv => p h4 t4 φ4 m4 (base (ls3.updS so u4 st4 er4).up) (st4.subgh hs) (er4.sub hs) val (hv.sub hs)
  · obtain rfl : i = items.length := Nat.le_antisymm hi (Nat.le_of_not_lt hlt)
    rw [List.drop_length] at hfor
    obtain ⟨rfl, rfl, rfl⟩ := some3 hfor
    refine T.done hS ls.st fun h1 t1 k1 => wpAny_execs_nil ?_
    exact p h1 t1 φ' m' (base (ls.up.side k1 hwp)) (ls.st.over (T.sdS hS) k1 hs (fun a ha hg => hgw a hg ha)) ((ls.er.side ls.st (T.sdS hS) k1).sub hs)

theorem st_loop (G : GF c) (AE : ∀ p, EvOk c prog w kw N Φ k p) {t : Tgt} {gn : Gn} {a b : PE} {body : PSs} (hb : StsOk c prog w kw N Φ k body) : StOk c prog w kw N Φ k (.loop t gn a b body) := by
  intro sc xx hm g env A E s φ H m ρ fl ρ' H' Q hsc ow ao st er he p
  have so := ScOk.self hsc
  cases hm with
  | loop hMT hg m2 =>
    rename_i target iter body' pos
    refine ob_elim he fun x H1 e1 he => ob_elim he fun y H2 e2 he => bd_elim he fun items e3 he => ?_
    refine wpAny_For ?_ (fun v => hg.fold env v)
    refine gen_ok (target := target) G hg (.inl rfl) (AE a) (AE b) so ao st er e1 e2 e3 fun hp φ1 it h0 tk0 u1 st1 src hk1 => ?_
    obtain ⟨I, wr, tg, rfl, hwr, htg, hturns⟩ := src
    obtain ⟨S, Md, T, hS0⟩ := hturns g env.locals h0 (fun a ha => .inl ha) (fun _ _ e => e) (.inl rfl)
    obtain ⟨hgw, st0, er0, _⟩ := hold_ok st1 (er.up st u1) hk1 hwr htg
    have er1 := er.up st u1
    exact for_loop hb T hMT m2 hsc ow ao (fun a ha => List.mem_append_right _ ha) hgw (fun a ha => (hwr a ha).1) hS0 ⟨st0, er0, ⟨⟨[], by simp, by simp⟩, fun a o e _ _ _ => hk1 a o e⟩⟩ he (fun v => (Up.toS u1).trans so st1 er1 v) p

theorem st_dead : StOk c prog w kw N Φ k .dead := by
  intro sc xx hm g env A E s φ H m ρ fl ρ' H' Q hsc ow ao st er he p
  exact nosome he

theorem all_sts (G : GF c) (AE : ∀ p, EvOk c prog w kw N Φ k p) (AT : ∀ p, TrOk c prog w kw N Φ k p) (p : PSs) : StsOk c prog w kw N Φ k p :=
  @PSs.rec (fun p => StOk c prog w kw N Φ k p) (fun p => StsOk c prog w kw N Φ k p)
    (fun _ _ => st_assign G AE AT) (fun _ _ _ => st_assign2 G AE) (fun _ _ _ => st_tup G AE) (fun _ _ _ => st_sub G AE) (fun _ _ _ => st_aug G AE) (fun _ => st_ret G AE) (fun _ => st_expr G AE) (fun _ _ => st_append G AE)
    (fun _ _ _ a b => st_ifs G AT a b) (fun _ _ _ _ _ b => st_loop G AE b) (fun _ _ _ b => st_while G AT b) st_dead sts_nil (fun _ _ a l => sts_cons a l) p
end
end Mine

-- M29
set_option autoImplicit false
set_option maxRecDepth 100000
namespace Mine
open PySem PySem.W PyProof.Rows

theorem mem_zip_fst {α β : Type} {x : α} : ∀ {l : List α} {r : List β}, x ∈ (l.zip r).map (·.1) → x ∈ l
  | [], _, h => by simp at h
  | _ :: _, [], h => by simp at h
  | a :: l, b :: r, h => by
    rw [List.zip_cons_cons, List.map_cons, List.mem_cons] at h
    rcases h with h | h
    · exact h ▸ .head _
    · exact .tail _ (mem_zip_fst h)
theorem bindL_other {kd : Str → Option NameKind} {id : Str} : ∀ {b : List (Str × Value)} {m : Str → Option Value}, id ∉ b.map (·.1) → bindL kd b m id = m id
  | [], m, _ => rfl
  | (n, v) :: r, m, h => by
    have h1 : id ≠ n := fun q => h (by simp [q])
    have h2 : id ∉ r.map (·.1) := fun q => h (by simp [q])
    unfold bindL
    rw [bindL_other h2]
    split
    · exact if_neg h1
    · rfl
theorem bindC_other {kd : Str → Option NameKind} {id : Str} : ∀ {b : List (Str × Value)} {m : Str → Option Value}, id ∉ b.map (·.1) → bindC kd b m id = m id
  | [], m, _ => rfl
  | (n, v) :: r, m, h => by
    have h1 : id ≠ n := fun q => h (by simp [q])
    have h2 : id ∉ r.map (·.1) := fun q => h (by simp [q])
    unfold bindC
    rw [bindC_other h2]
    split
    · rfl
    · exact if_neg h1
theorem bindL_at {kd : Str → Option NameKind} {id : Str} (hk : kd id = some .local) : ∀ {ps : List Str} {vs : List Value} {i : Nat} {y : Value} {m : Str → Option Value}, ps.Nodup → ps[i]? = some id → vs[i]? = some y → bindL kd (ps.zip vs) m id = some y
  | [], _, _, _, _, _, h, _ => by simp at h
  | _ :: _, [], _, _, _, _, _, h => by simp at h
  | p :: ps, v :: vs, 0, y, m, nd, h1, h2 => by
    simp at h1 h2; subst h1 h2
    rw [List.nodup_cons] at nd
    rw [List.zip_cons_cons]; unfold bindL
    rw [bindL_other fun q => nd.1 (mem_zip_fst q), if_pos hk]
    exact if_pos rfl
  | p :: ps, v :: vs, i + 1, y, m, nd, h1, h2 => by
    rw [List.nodup_cons] at nd
    rw [List.zip_cons_cons]; unfold bindL
    exact bindL_at hk nd.2 (by simpa using h1) (by simpa using h2)
theorem bindC_at {kd : Str → Option NameKind} {id : Str} (hk : kd id ≠ some .local) : ∀ {ps : List Str} {vs : List Value} {i : Nat} {y : Value} {m : Str → Option Value}, ps.Nodup → ps[i]? = some id → vs[i]? = some y → bindC kd (ps.zip vs) m id = some y
  | [], _, _, _, _, _, h, _ => by simp at h
  | _ :: _, [], _, _, _, _, _, h => by simp at h
  | p :: ps, v :: vs, 0, y, m, nd, h1, h2 => by
    simp at h1 h2; subst h1 h2
    rw [List.nodup_cons] at nd
    rw [List.zip_cons_cons]; unfold bindC
    rw [bindC_other fun q => nd.1 (mem_zip_fst q), if_neg hk]
    exact if_pos rfl
  | p :: ps, v :: vs, i + 1, y, m, nd, h1, h2 => by
    rw [List.nodup_cons] at nd
    rw [List.zip_cons_cons]; unfold bindC
    exact bindC_at hk nd.2 (by simpa using h1) (by simpa using h2)

noncomputable def slots0 (n : Nat) (fv : List V) : En := fv.map some ++ List.replicate (n - fv.length) none
theorem getE_slots {n : Nat} {fv : List V} {i : Nat} {v : V} (h : getE (slots0 n fv) i = some v) : fv[i]? = some v := by
  unfold getE slots0 at h
  by_cases hi : i < fv.length
  · rw [List.getElem?_append_left (by simpa using hi), List.getElem?_map] at h
    rw [List.getElem?_eq_getElem hi] at h ⊢
    simpa using h
  · rw [List.getElem?_append_right (by simpa using hi)] at h
    cases q : (List.replicate (n - fv.length) (none : Option V))[i - (fv.map some).length]? with
    | none => rw [q] at h; simp at h
    | some o =>
      rw [q] at h
      have := List.mem_of_getElem? q
      rw [List.mem_replicate] at this
      rw [this.2] at h; simp at h

section
variable {c : Cx} {prog : Program} {w : World} {kw : Nat → List Str} {N : List Str} {Φ : Fns} {k : Nat}

theorem frame_gen {g : List Addr} {φ : List Addr} {H : Hp} {Lc : Addr} {mc : Str → Option Value} {s s' : Shared} {scope : Scope} {ps : List Str} {ρ0 : En} {fx : List Value} {env : Env} {qual : Str} {func : Option Addr} {code : Value}
    (st : St (c.wg g) φ H Lc mc s.heap) (pos : ∀ {i : Nat} {id : Str} {v : V}, getE ρ0 i = some v → N[i]? = some id → ps[i]? = some id ∧ ∃ y, fx[i]? = some y ∧ VRel (c.wg g) s.heap φ v y) (hnd : N.Nodup) (hpn : ps.Nodup) (hk : hkey ∉ ps) (hfn : scope.kind = .function) (hfree : ∀ y ∈ scope.names, y.2 ≠ .free)
    (he : env = newEnv scope s.heap.objs.size mainGlobals (cellsFrom (s.heap.objs.size + 1) scope.names []) qual func code none builtinsNs)
    (ic : InCallC s env.locals (bindL env.kindOf (ps.zip fx) fun _ => none) env.cells (bindC env.kindOf (ps.zip fx) fun _ => none) s') :
    env.scope = scope ∧ Own c scope env ∧ St (c.wg g) φ H env.locals (bindL env.kindOf (ps.zip fx) fun _ => none) s'.heap ∧ ERel (c.wg g) N s'.heap φ env (bindL env.kindOf (ps.zip fx) fun _ => none) ρ0 ∧
      KeepA s.heap s'.heap ∧ s.heap.get? env.locals = none ∧ ∀ x a, scope.names.lookup x = some .cell → env.cells.lookup x = some a → s.heap.get? a = none := by
  have keep : KeepA s.heap s'.heap := ic.toInCall.keep
  have hsc : env.scope = scope := by rw [he]; rfl
  have above : ∀ {a : Addr}, s.heap.objs.size ≤ a → s.heap.get? a = none := fun {a} ha => get_none_of_le ha
  have hL : s.heap.objs.size ≤ env.locals := ic.toInCall.fresh
  have cellNone : ∀ x a, env.cells.lookup x = some a → s.heap.get? a = none := fun x a e => above (Nat.le_trans hL (Nat.le_of_lt (ic.above x a (mem_of_lookup e))))
  have grow : ∀ {v : V} {x : Value}, VRel (c.wg g) s.heap φ v x → VRel (c.wg g) s'.heap φ v x := fun r => r.grow (c := (c.wg g)) st keep fun a ha => .inl ha
  refine ⟨hsc, fun x a _ e => st.w.none0 (cellNone x a e), ?_, ⟨hnd, by rw [hsc]; exact hfn, by rw [he]; rfl, by rw [he]; rfl, fun i v id e n kd => ?_, fun i v id e n kd => ?_, fun x kd => ?_, fun x y a hx hy => name_of_addr ic.apart (mem_of_lookup hx) (mem_of_lookup hy)⟩, keep, above hL, fun x a _ e => cellNone x a e⟩
  · refine St.grow (c := (c.wg g)) st keep (fun a ha => .inl ha) ic.toInCall.ns ?_ (Nat.le_trans ?_ hL)
    · rw [bindL_other fun q => hk (mem_zip_fst q)]
    · obtain ⟨o, _, _, e, _⟩ := st.l.ns
      exact Nat.le_trans st.l.above (Nat.le_of_lt (Heap.lt_size e))
  · obtain ⟨h1, y, h2, h3⟩ := pos e n
    exact ⟨y, bindL_at kd hpn h1 h2, grow h3⟩
  · obtain ⟨h1, y, h2, h3⟩ := pos e n
    have hcm : (id, NameKind.cell) ∈ scope.names := by
      rcases kd with kd | kd
      · exact mem_of_lookup (by rw [← hsc]; exact kd)
      · exact absurd rfl (hfree _ (mem_of_lookup (by rw [← hsc]; exact kd)))
    obtain ⟨a, ha⟩ : ∃ a, env.cells.lookup id = some a := by rw [he]; exact lookup_some_mem (cf_mem.mpr hcm)
    have hc := ic.cell id a ha
    rw [bindC_at (fun q => by rcases kd with kd | kd <;> (rw [kd] at q; cases q)) hpn h1 h2] at hc
    exact ⟨a, y, ha, hc, grow h3⟩
  · have hcm : (x, NameKind.cell) ∈ scope.names := by
      rcases kd with kd | kd
      · exact mem_of_lookup (by rw [← hsc]; exact kd)
      · exact absurd rfl (hfree _ (mem_of_lookup (by rw [← hsc]; exact kd)))
    obtain ⟨a, ha⟩ : ∃ a, env.cells.lookup x = some a := by rw [he]; exact lookup_some_mem (cf_mem.mpr hcm)
    exact ⟨a, _, ha, ic.cell x a ha⟩

theorem pos_of {g : List Addr} {φ : List Addr} {h : Heap} {ps : List Str} {fv : List V} {fx : List Value} (rs : VRels (c.wg g) h φ fv fx) (hps : ∀ (i : Nat) (id : Str), ps[i]? = some id → N[i]? = some id) (hlen : fv.length = ps.length) {i : Nat} {id : Str} {v : V}
    (e : getE (slots0 N.length fv) i = some v) (n : N[i]? = some id) : ps[i]? = some id ∧ ∃ y, fx[i]? = some y ∧ VRel (c.wg g) h φ v y := by
  have e := getE_slots e
  have hi : i < ps.length := by rw [← hlen]; exact (List.getElem?_eq_some_iff.mp e).1
  have h1 := hps i _ (List.getElem?_eq_getElem hi)
  rw [n] at h1
  exact ⟨by rw [List.getElem?_eq_getElem hi]; exact h1.symm, rs.get e⟩
end
end Mine

-- M30
set_option autoImplicit false
set_option maxRecDepth 100000
namespace Mine
open PySem PySem.W PyProof.Rows

section
variable {c : Cx} {prog : Program} {w : World} {kw : Nat → List Str} {N : List Str} {Φ : Fns} {k : Nat}

theorem AOk.in1 {A : Around} (a : AOk A (k + 1)) {env : Env} : AOk (A.deeper env) k := by
  refine ⟨a.hh, ?_, ?_⟩
  · have := a.dep
    show A.depth + 1 + 8 * k + 8 < recursionLimit
    omega
  · have := a.uni
    show A.units + 3 + 32 * k + 128 < cLine
    omega

structure FnAt (c : Cx) (N : List Str) (v : Value) (a : Addr) (fd : FuncData) (body : List Stmt) (ps : List Str) : Prop where
  v : v = .ref a
  ho : ∃ o, c.h₀.get? a = some o ∧ o.data = .func fd
  code : c.h₀.CodeRec fd.code fd.qualname
  body : fd.body = .stmts body
  clo : fd.closure = []
  gl : fd.globals = mainGlobals
  bi : fd.builtins = builtinsNs
  co : fd.scope.isCoroutine = false
  gen : fd.scope.isGenerator = false
  kind : fd.scope.kind = .function
  free : ∀ y ∈ fd.scope.names, y.2 ≠ .free
  nd : N.Nodup
  pre : ∀ (i : Nat) (id : Str), ps[i]? = some id → N[i]? = some id
  pnd : ps.Nodup
  nk : hkey ∉ ps
  pk : ∀ id ∈ ps, fd.scope.names.lookup id = some .local ∨ fd.scope.names.lookup id = some .cell

theorem fn_body {f : Value} {a : Addr} {fd : FuncData} {body : List Stmt} {ps : List Str} {p : PSs} (fa : FnAt c N f a fd body ps) (G : GF c) (sts : StsOk c prog w kw N Φ k p) (hm : MSs c kw N fd.scope body p)
    {g : List Addr} {A : Around} {E : Value → Shared → Prop} {s : Shared} {φ : List Addr} {H : Hp} {L : Addr} {m : Str → Option Value} {args : Args} {fv : List V} {fx : List Value} {r : V} {H' : Hp} {Q : Value → Shared → Prop}
    (ao : AOk A (k + 1)) (st : St (c.wg g) φ H L m s.heap) (hbind : BindsTo s fd args (ps.zip fx)) (rs : VRels (c.wg g) s.heap φ fv fx) (hlen : fv.length = ps.length)
    (he : runF Φ p (slots0 N.length fv) H = some (r, H')) (post : Post (c.wg g) φ L m s r H' Q) : wpAny (model prog w) A (call f args.pos args.kw) Q E s := by
  obtain ⟨o, ho, hd⟩ := fa.ho
  rw [fa.v]
  refine wpAny_call (codeAny_call_function (by have := ao.dep; omega) (st.w.stays a o ho) hd fa.co fa.gen fa.body (fa.code.keeps st.w.stays) (hbind _ _ _ _ ?_))
  rw [fa.clo, fa.gl, fa.bi]
  have hkind : ∀ x ∈ ps.zip fx, fd.scope.names.lookup x.1 = some .local ∨ (fd.scope.names.lookup x.1 = some .cell ∧ ((cellsFrom (s.heap.objs.size + 1) fd.scope.names []).lookup x.1).isSome = true) := fun x hx => by
    have hp : x.1 ∈ ps := mem_zip_fst (List.mem_map.mpr ⟨x, hx, rfl⟩)
    rcases fa.pk _ hp with q | q
    · exact .inl q
    · refine .inr ⟨q, ?_⟩
      obtain ⟨b, hb⟩ := lookup_some_mem (cf_mem (n := s.heap.objs.size + 1) |>.mpr (mem_of_lookup q))
      rw [hb]; rfl
  refine wpAny_newFunctionEnv_cells fa.kind hkind fun env henv s' ic => ?_
  obtain ⟨hsc, ow, st1, er1, kp, hLn, hcn⟩ := frame_gen st (fun {i id v} e n => pos_of rs fa.pre hlen e n) fa.nd fa.pnd fa.nk fa.kind fa.free henv ic
  refine ⟨(G.nl.keeps st.w.stays).keeps kp, codeAny_func ?_⟩
  obtain ⟨h1, t1, hs'⟩ := ic.toInCall.same
  have up1 : Up env.locals s.heap φ s'.heap φ := .of_keepL fun a o e _ => kp a o e
  have fin : ∀ {h' : Heap} {tk : Nat} {φ' : List Addr} {m' : Str → Option Value} {val : Value}, UpS fd.scope env s'.heap φ h' φ' → St (c.wg g) φ' H' env.locals m' h' → VRel (c.wg g) h' φ' r val → Q val (sht s' h' tk) := fun {h' tk φ' m' val} u st' rv => by
    have uu := up1.thenS st1 u hLn hcn (fun o e => by rw [hLn] at e; cases e)
    have ne : ∀ {a : Addr} {o : Obj}, s.heap.get? a = some o → a ≠ env.locals := fun {a o} e q => by rw [q, hLn] at e; cases e
    have := post val h' tk φ' ⟨uu.ext, fun a o e n _ => uu.keep a o e n (ne e)⟩ ⟨st'.w, st.l.ns.at' fun o e => uu.keep L o e (st.l.notCell st.w) (ne e), st.l.nk, st.l.above⟩ rv
    rw [hs']; exact this
  obtain ⟨⟨fl, ρ', H1⟩, e1, he⟩ := Option.map_eq_some_iff.mp he
  obtain ⟨rfl, rfl⟩ := some2 (congrArg some he)
  cases fl with
  | nx => exact sts hm hsc ow ao.in1 st1 er1 e1 fun h' tk φ' m' u st' er' => fin u st' rfl
  | rt v => exact sts hm hsc ow ao.in1 st1 er1 e1 fun h' tk φ' m' u st' er' val hv => fin u st' hv
end
end Mine

-- M31
set_option autoImplicit false
set_option maxRecDepth 100000
namespace Mine
open PySem PySem.W PyProof.Rows

noncomputable def codeN : List Nat := [14, 10, 4, 1, 1, 22, 0, 31, 16, 127, 0, 13, 7, 22, 0, 31, 16, 127, 0, 1]
noncomputable def codeV : List Nat := [14, 14, 4, 1, 1, 9, 4294966783, 0, 0, 2147483648, 0, 0, 0, 0, 0, 13, 11, 9, 4294966783, 0, 0, 2147483648, 0, 0, 0, 0, 0, 1]

noncomputable def okF {α : Type} : Except String (Bool × α) → Bool
  | .ok (b, _) => !b
  | .error _ => false
theorem okF_ok {α : Type} {r : Except String (Bool × α)} (h : okF r = true) : ∃ x, r = .ok (false, x) := by
  cases r with
  | error => exact Bool.noConfusion h
  | ok p =>
    obtain ⟨b, x⟩ := p
    cases b with
    | false => exact ⟨x, rfl⟩
    | true => exact Bool.noConfusion h
theorem inSet_N (seen : Sre.Seen) : ∀ c, c < 127 → 32 ≤ c → okF (Sre.inSet codeN.toArray c codeN.toArray.size 5 true seen) = true := of_decide_eq_true (by kernel_rfl)
theorem inSet_V (seen : Sre.Seen) : ∀ c, c < 127 → 32 ≤ c → okF (Sre.inSet codeV.toArray c codeV.toArray.size 5 true seen) = true := of_decide_eq_true (by kernel_rfl)
theorem inSet_clean (cd : List Nat) (hc : cd = codeN ∨ cd = codeV) : ∀ c, 32 ≤ c → c < 127 → ∀ seen, ∃ seen', Sre.inSet cd.toArray c cd.toArray.size 5 true seen = .ok (false, seen') := by
  intro c h1 h2 seen
  rcases hc with rfl | rfl
  · exact okF_ok (inSet_N seen c h2 h1)
  · exact okF_ok (inSet_V seen c h2 h1)

theorem admitted_clean (cd : List Nat) (hc : cd = codeN ∨ cd = codeV) (m : Sre.M) (hm : m.code = cd.toArray) (ht : ∀ i, i < m.lim → 32 ≤ m.text.getD i 0 ∧ m.text.getD i 0 < 127) : ∀ fuel s seen, ∃ seen', Sre.M.admitted m fuel s seen = .ok (none, seen') := by
  intro fuel
  induction fuel with
  | zero => intro s seen; exact ⟨seen, rfl⟩
  | succ fuel ih =>
    intro s seen
    unfold Sre.M.admitted
    by_cases h : s ≥ m.lim
    · rw [if_pos h]; exact ⟨seen, rfl⟩
    · rw [if_neg h]
      obtain ⟨h1, h2⟩ := ht s (by omega)
      obtain ⟨seen', e⟩ := inSet_clean cd hc _ h1 h2 seen
      rw [hm, e]
      exact ih (s + 1) seen'

theorem search_clean (cd : List Nat) (hc : cd = codeN ∨ cd = codeV) (text : Array Nat) (groups : Nat) (ht : ∀ i, i < text.size → 32 ≤ text.getD i 0 ∧ text.getD i 0 < 127) :
    ∃ m : Sre.M, Sre.forSearch cd.toArray text groups 0 text.size false = m.say false ∧ m.frames = [] ∧ m.outcome = none := by
  unfold Sre.forSearch
  have hh : (Sre.header cd.toArray).1 = 1 := by rcases hc with rfl | rfl <;> decide
  simp only [hh]
  split
  · exact ⟨_, rfl, rfl, rfl⟩
  · unfold Sre.M.attemptFrom
    have hf : ∀ m : Sre.M, m.code = cd.toArray → m.hasFirstSet = true := fun m hm => by
      unfold Sre.M.hasFirstSet
      rw [hm]
      rcases hc with rfl | rfl <;> decide
    rw [hf _ rfl]
    simp only [Bool.not_true, Bool.false_eq_true, if_false]
    have key : ∀ (m : Sre.M) fuel s seen r, Sre.M.admitted m fuel s seen = r → m.code = cd.toArray → m.text = text → m.lim = text.size → ∃ seen', r = .ok (none, seen') := fun m fuel s seen r e h1 h2 h3 => by
      obtain ⟨x, q⟩ := admitted_clean cd hc m h1 (by rw [h2, h3]; exact ht) fuel s seen
      exact ⟨x, e.symm.trans q⟩
    split
    · rename_i e
      obtain ⟨_, e'⟩ := key _ _ _ _ _ e rfl rfl rfl
      cases e'
    · exact ⟨_, rfl, rfl, rfl⟩
    · rename_i e
      obtain ⟨_, e'⟩ := key _ _ _ _ _ e rfl rfl rfl
      cases e'

section
variable {prog : Program} {w : World} {A : Around} {E : Value → Shared → Prop} {s : Shared}
theorem run_said (m : Sre.M) (hf : m.frames = []) (ho : m.outcome = none) : ((m.say false).runFor 4).outcome = some .failed := by
  unfold Sre.M.say
  simp [Sre.M.runFor, Sre.M.step, hf, ho]
theorem drive_done (n : Nat) (m : Sre.M) (h : ((m.runFor Builtin.Re.reTurnSteps).outcome).isSome = true) : Builtin.Re.reDrive (n + 1) m = pure (m.runFor Builtin.Re.reTurnSteps) := by
  unfold Builtin.Re.reDrive
  simp only [h, if_true]
end
end Mine

-- M32
set_option autoImplicit false
set_option maxRecDepth 100000
namespace Mine
open PySem PySem.W PyProof.Rows

theorem entry_pat_search : entryFor table "re.Pattern.search" = some Builtin.«re.Pattern.search» := entryFor_of_tree (by kernel_rfl)
theorem type_pat_search : typeOf (.builtin "re.Pattern.search") = pure (.type "method_descriptor") := by show builtinType _ = _; rw [builtinType_eq_fast]; kernel_rfl
theorem slot_pat_search : Slot "re.Pattern" "search" "re.Pattern.search" :=
  .of (owner := "re.Pattern") (n := "search") (by rw [typeLookup_type, builtinLookup_eq_fast]; kernel_rfl) (by decide +kernel) (by decide +kernel) (by decide +kernel)
    (by first | exact .inl (by decide +kernel) | exact .inr (by decide +kernel)) (by rw [isSubtype_type]; kernel_rfl)
theorem args_pat_search (a b : Value) : argsOk "re.Pattern.search" ⟨[a, b], []⟩ := by
  unfold argsOk; kernel_rfl
theorem plainAttrs_pat : PlainAttrs "re.Pattern" :=
  ⟨⟨"object.__getattribute__", by rw [typeLookup_type, builtinLookup_eq_fast]; kernel_rfl, by decide +kernel⟩, by rw [typeLookup_type, builtinLookup_eq_fast]; kernel_rfl⟩
theorem named_ok (x : Str) (t : Tok) : Builtin.Re.reNamed "re.Pattern.search" "search" ["string", "pos", "endpos"] 1 [.str x t] [] = pure [some (.str x t), none, none] := by rfl

section
variable {prog : Program} {w : World} {A : Around} {E : Value → Shared → Prop} {s : Shared}
theorem target_pat {a T : Addr} {fs ws : Array Value} {n : Nat} {x : Str} {t : Tok} {Q : Builtin.Re.ReTarget → Shared → Prop} (h1 : s.heap.get? a = some { cls := .type "re.Pattern", data := .fields fs }) (h2 : fs.getD 5 .none = .ref T)
    (h6 : Builtin.Re.reRawNat (fs.getD 6 .none) = 0) (h5 : s.heap.get? T = some { cls := .type "tuple", data := .seq ws n }) (hx : (x.cps.size : Int) < 2 ^ 62)
    (h : Q { pattern := .ref a, string := .str x t, code := (ws.map Builtin.Re.reRawOf).map (·.toNat), text := x.cps, kind := 0, groups := Builtin.Re.reRawNat (fs.getD 2 .none), pos := 0, lim := x.cps.size } s) :
    wpAny (model prog w) A (Builtin.Re.reTarget "re.Pattern.search" "search" ⟨[.ref a, .str x t], []⟩) Q E s := by
  unfold Builtin.Re.reTarget
  dsimp only
  rw [named_ok]
  refine wpAny_bind (wpAny_pure ?_)
  dsimp only
  refine wpAny_bind (wpAny_pure (wpAny_bind (wpAny_pure ?_)))
  refine wpAny_bind (wpAny_fieldsOf h1 rfl ?_)
  have et : Builtin.Re.reTextOf (.str x t) = pure (x.cps, 0) := by rfl
  rw [et]
  refine wpAny_bind (wpAny_pure ?_)
  dsimp only
  rw [h6]
  have e1 : ((0 : Nat) == 0 && (0 : Nat) == 1) = false := rfl
  have e2 : ((0 : Nat) == 1 && (0 : Nat) == 0) = false := rfl
  simp only [e1, e2, Bool.false_eq_true, if_false]
  have en : Builtin.Re.reNoCollectionInside (.str x t) 0 = pure () := by rfl
  refine wpAny_bind (wpAny_of_eq en ?_)
  rw [h2]
  unfold Builtin.Re.reRawItems
  refine wpAny_bind (wpAny_bind (wpAny_seqItems h5 rfl (wpAny_pure (wpAny_pure ?_))))
  have c1 : min (0 : Int).toNat x.cps.size = 0 := by simp
  have c2 : min ((2 ^ 63 - 1 : Int)).toNat x.cps.size = x.cps.size := by omega
  rw [c1, c2]
  exact h

theorem rules_ok (m : Sre.M) : ∀ (l : List Nat) {Q : PUnit → Shared → Prop}, Q ⟨⟩ s → wpAny (model prog w) A (forIn l PUnit.unit fun i _ => do
    if m.seen.has i then rule (Sre.names.getD i "")
    pure (ForInStep.yield PUnit.unit)) Q E s
  | [], Q, h => by rw [List.forIn_nil]; exact wpAny_pure h
  | i :: l, Q, h => by
    rw [List.forIn_cons]
    refine wpAny_bind ?_
    split
    · exact wpAny_bind (wpAny_rule (wpAny_pure (rules_ok m l h)))
    · exact wpAny_pure (rules_ok m l h)

theorem answer_none {tg : Builtin.Re.ReTarget} {m : Sre.M} {Q : Value → Shared → Prop} (hf : m.frames = []) (ho : m.outcome = none) (h : Q .none s) :
    wpAny (model prog w) A (Builtin.Re.reAnswer tg (m.say false)) (fun fin s' => ∃ v, fin = .done (.ret v) ∧ Q v s') E s := by
  have hr := run_said m hf ho
  have hd : Builtin.Re.reDrive (2 ^ 64) (m.say false) = pure ((m.say false).runFor Builtin.Re.reTurnSteps) := drive_done (2 ^ 64 - 1) _ (by
    show ((m.say false).runFor 4).outcome.isSome = true
    rw [hr]; rfl)
  unfold Builtin.Re.reAnswer Builtin.Re.reRunToEnd
  rw [hd]
  refine wpAny_bind (wpAny_bind (wpAny_pure ?_))
  have hr' : ((m.say false).runFor Builtin.Re.reTurnSteps).outcome = some .failed := hr
  refine wpAny_bind (rules_ok _ _ ?_)
  rw [hr']
  exact wpAny_pure (wpAny_pure ⟨_, rfl, h⟩)
end
end Mine

-- M33
set_option autoImplicit false
set_option maxRecDepth 100000
namespace Mine
open PySem PySem.W PyProof.Rows

noncomputable def PatAt (c : Cx) : Prop := ∀ k, k < 2 → ∃ (a T : Addr) (fs ws : Array Value) (n : Nat) (cd : List Nat), c.pv k = .ref a ∧ (cd = codeN ∨ cd = codeV) ∧ c.h₀.get? a = some { cls := .type "re.Pattern", data := .fields fs } ∧ fs.getD 5 .none = .ref T ∧
  Builtin.Re.reRawNat (fs.getD 6 .none) = 0 ∧ c.h₀.get? T = some { cls := .type "tuple", data := .seq ws n } ∧ (ws.map Builtin.Re.reRawOf).map (·.toNat) = cd.toArray

theorem search_ok {c : Cx} {prog : Program} {w : World} (P : PatAt c) : SearchOk c prog w := by
  intro A E s k pl Q hk2 hk hQ
  obtain ⟨a, T, fs, ws, n, cd, ha, hcd, h1, h2, h6, h5, hc⟩ := P k hk2
  rw [ha]
  have hT : s.TypeIs (.ref a) "re.Pattern" := ⟨_, hk _ _ h1, rfl⟩
  refine getMethod_builtin hT plainAttrs_pat slot_pat_search type_pat_search (fun b hb => by cases hb; exact ⟨_, hk _ _ h1, rfl⟩) (hQ _ _ (fun h => keeper_builtin _ h) ?_)
  intro A' E' s' l t Q' hk' hcl hlen hh h
  have hT' : s'.TypeIs (.ref a) "re.Pattern" := ⟨_, hk' _ _ h1, rfl⟩
  refine wpAny_call_entry slot_pat_search hT' entry_pat_search ?_ (args_pat_search _ _)
  unfold Builtin.«re.Pattern.search»
  refine wpAny_bind (target_pat (hk' _ _ h1) h2 h6 (hk' _ _ h5) ?_ ?_)
  · show ((toS l).cps.size : Int) < 2 ^ 62
    have : (toS l).cps.size = l.length := by simp [toS]
    rw [this]; omega
  · dsimp only
    rw [hc]
    have ht : ∀ i, i < l.toArray.size → 32 ≤ l.toArray.getD i 0 ∧ l.toArray.getD i 0 < 127 := fun i hi => by
      have hi' : i < l.length := by simpa using hi
      have : l.toArray.getD i 0 = l[i] := by simp [Array.getD, hi']
      rw [this]
      have := List.all_eq_true.mp hcl l[i] (List.getElem_mem _)
      simpa using this
    obtain ⟨m, e, hf, ho⟩ := search_clean cd hcd l.toArray (Builtin.Re.reRawNat (fs.getD 2 .none)) ht
    rw [e]
    exact answer_none hf ho (h s'.heap s'.toks fun _ _ e => e)
end Mine

-- M34
set_option autoImplicit false
set_option maxRecDepth 100000
namespace Mine
open PySem PySem.W PyProof.Rows

section
variable {c : Cx} {prog : Program} {w : World} {kw : Nat → List Str} {N : List Str} {Φ : Fns} {k : Nat}

theorem call_open {f : Value} {a : Addr} {fd : FuncData} {body : List Stmt} {ps : List Str} (fa : FnAt c N f a fd body ps) (G : GF c)
    {g : List Addr} {A : Around} {R : Result → Shared → Prop} {s0 s : Shared} {φ : List Addr} {H : Hp} {L : Addr} {m : Str → Option Value} {args : Args} {ρ0 : En} {fx : List Value}
    (hroom : A.depth < recursionLimit) (k0 : KeepA c.h₀ s0.heap) (st : St (c.wg g) φ H L m s.heap) (hbind : ∀ (M : Model) (A : Around) (E : Value → Shared → Prop) (Q : List (Str × Value) → Shared → Prop), Q (ps.zip fx) s → wpAny M A (bindArgs fd args) Q E s0)
    (pos : ∀ {i : Nat} {id : Str} {v : V}, getE ρ0 i = some v → N[i]? = some id → ps[i]? = some id ∧ ∃ y, fx[i]? = some y ∧ VRel (c.wg g) s.heap φ v y)
    (h : ∀ (env : Env) (E' : Value → Shared → Prop) (h1 : Heap) (t1 : Nat), env.scope = fd.scope → Own c fd.scope env → St (c.wg g) φ H env.locals (bindL env.kindOf (ps.zip fx) fun _ => none) h1 →
      ERel (c.wg g) N h1 φ env (bindL env.kindOf (ps.zip fx) fun _ => none) ρ0 → KeepA s.heap h1 → s.heap.get? env.locals = none → (∀ x a, fd.scope.names.lookup x = some .cell → env.cells.lookup x = some a → s.heap.get? a = none) →
      wpAny (model prog w) (A.deeper env) (execs body env) (fun f s' => R (.ok (.ret (match f with | .ret v => v | _ => .none))) s') E' (sht s h1 t1)) :
    codeAny (model prog w) A (.call (.ref a) args) R s0 := by
  obtain ⟨o, ho, hd⟩ := fa.ho
  refine codeAny_call_function hroom (k0 a o ho) hd fa.co fa.gen fa.body (fa.code.keeps k0) (hbind _ _ _ _ ?_)
  rw [fa.clo, fa.gl, fa.bi]
  have hkind : ∀ x ∈ ps.zip fx, fd.scope.names.lookup x.1 = some .local ∨ (fd.scope.names.lookup x.1 = some .cell ∧ ((cellsFrom (s.heap.objs.size + 1) fd.scope.names []).lookup x.1).isSome = true) := fun x hx => by
    have hp : x.1 ∈ ps := mem_zip_fst (List.mem_map.mpr ⟨x, hx, rfl⟩)
    rcases fa.pk _ hp with q | q
    · exact .inl q
    · refine .inr ⟨q, ?_⟩
      obtain ⟨b, hb⟩ := lookup_some_mem (cf_mem (n := s.heap.objs.size + 1) |>.mpr (mem_of_lookup q))
      rw [hb]; rfl
  refine wpAny_newFunctionEnv_cells fa.kind hkind fun env henv s' ic => ?_
  obtain ⟨hsc, ow, st1, er1, kp, hLn, hcn⟩ := frame_gen st pos fa.nd fa.pnd fa.nk fa.kind fa.free henv ic
  refine ⟨(G.nl.keeps st.w.stays).keeps kp, codeAny_func ?_⟩
  obtain ⟨h1, t1, hs'⟩ := ic.toInCall.same
  subst hs'
  exact h env _ h1 t1 hsc ow st1 er1 kp hLn hcn
end
end Mine

-- M35
set_option autoImplicit false
set_option maxRecDepth 100000
namespace Mine
open PySem PySem.W PyProof.Rows

section
variable {M : Model} {A : Around} {E : Value → Shared → Prop} {env : Env}
theorem execs_append : ∀ (l r : List Stmt), execs (l ++ r) env = (do match ← execs l env with | .next => execs r env | f => pure f)
  | [], r => by
    show execs r env = _
    rw [execs_nil, pure_bind]
  | x :: l, r => by
    show execs (x :: (l ++ r)) env = _
    rw [execs_cons, execs_cons, bind_assoc]
    congr 1
    funext f
    cases f with
    | next => exact execs_append l r
    | _ => simp only [pure_bind]
theorem wpAny_execs_append {l r : List Stmt} {s : Shared} {Q : Flow → Shared → Prop} (h : wpAny M A (execs l env) (fun f s' => match f with | .next => wpAny M A (execs r env) Q E s' | f => Q f s') E s) : wpAny M A (execs (l ++ r) env) Q E s := by
  rw [execs_append]
  refine wpAny_bind (wpAny_mono h (fun f s' h' => ?_) fun _ _ x => x)
  cases f <;> first | exact h' | exact wpAny_pure h'
end

structure GC (c : Cx) (fI : Addr) : Prop where
  sa : findIn c.K (.ref c.C) "__setattr__" = some (some (.builtin "object.__setattr__"))
  po : plainOver c.K c.C = true
  tk : takerIn c.K c.C hkey = some none
  mak : makesIn c.K c.C = true
  ini : findIn c.K (.ref c.C) "__init__" = some (some (.ref fI))
  isf : isFn c.K (.ref fI) = true
  ke : keepIn c.K (.ref c.C) = true

section
variable {c : Cx} {prog : Program} {w : World}
noncomputable def ledger (h₀ h : Heap) (L : Addr) : List (Addr × Obj) := (allN h L).filter fun p => (h₀.get? p.1).isNone
theorem ledger_news (h₀ h : Heap) (L : Addr) : News h₀ L h (ledger h₀ h L) := fun p hp => by
  obtain ⟨h1, h2⟩ := List.mem_filter.mp hp
  exact ⟨(of_allN h1).1, (of_allN h1).2, by simpa using h2⟩
theorem mem_ledger {h₀ h : Heap} {L a : Addr} {o : Obj} (e : h.get? a = some o) (n : a ≠ L) (h0 : h₀.get? a = none) : (a, o) ∈ ledger h₀ h L := List.mem_filter.mpr ⟨mem_allN e n, by simp [h0]⟩
theorem keep_ledger {h₀ h h' : Heap} {L : Addr} {m : Str → Option Value} {news : List (Addr × Obj)} (F : Fr h₀ L h' m) (N : News h₀ L h' news) (hs : ∀ p ∈ ledger h₀ h L, p ∈ news) (st : ∀ a o, h₀.get? a = some o → h.get? a = some o) : KeepL L h h' := fun a o e n => by
  cases q : h₀.get? a with
  | none => exact (N _ (hs _ (mem_ledger e n q))).1
  | some o' =>
    have := st a o' q
    rw [e] at this; cases this
    exact F.keep a o q

theorem set_hdr {fI : Addr} (G : GF c) (K : GC c fI) {g : List Addr} {φ : List Addr} {H : Hp} {L : Addr} {m : Str → Option Value} {A : Around} {E : Value → Shared → Prop} {s : Shared} {x dx : Addr} {v : Value} {Q : Unit → Shared → Prop}
    (st : St (c.wg g) φ H L m s.heap) (hx : s.heap.get? x = some (instObj c.C dx)) (hd : s.heap.get? dx = some (dictOf [] 0)) (hd0 : c.h₀.get? dx = none) (hdL : dx ≠ L)
    (h : ∀ h' tk hh t n, (∀ a o, s.heap.get? a = some o → a ≠ dx → a ≠ L → h'.get? a = some o) → h'.get? dx = some (dictOf [⟨hh, .str hkey t, v⟩] n) → h'.Ns L m → Q () (sht s h' tk)) :
    wpAny (model prog w) A (setAttr (.ref x) hkey v) Q E s := by
  have N : News c.h₀ L s.heap ((dx, dictOf [] 0) :: (ledger c.h₀ s.heap L).filter fun p => p.1 ≠ dx) := fun p hp => by
    rcases List.mem_cons.mp hp with rfl | hp
    · exact ⟨hd, hdL, hd0⟩
    · exact ledger_news _ _ _ p (List.mem_filter.mp hp).1
  refine set_dict (K := c.K) (es := []) (n := 0) (es' := putL hkey (PyData.keyHash w.params hkey) (.str hkey (s.toks + 1)) v []) (n' := putN hkey [] 0) (news' := (dx, dictOf (putL hkey (PyData.keyHash w.params hkey) (.str hkey (s.toks + 1)) v []) (putN hkey [] 0)) :: (ledger c.h₀ s.heap L).filter fun p => p.1 ≠ dx)
    st.fr G.k N ⟨hx, rfl, rfl, hd⟩ rfl K.sa K.po K.tk G.hd rfl rfl (.head fun p hp => by simpa using (List.mem_filter.mp hp).2) (by simp [putL]) fun h' F' N' => ?_
  refine h h' _ _ _ _ (fun a o e n1 n2 => ?_) (N' _ (.head _)).1 F'.ns
  cases q : c.h₀.get? a with
  | none => exact (N' _ (.tail _ (List.mem_filter.mpr ⟨mem_ledger e n2 q, by simpa using n1⟩))).1
  | some o' =>
    have := st.w.stays a o' q
    rw [e] at this; cases this
    exact F'.keep a o q
end
end Mine

-- M36
set_option autoImplicit false
set_option maxRecDepth 100000
namespace Mine
open PySem PySem.W PyProof.Rows

section
variable {c : Cx} {prog : Program} {w : World} {kw : Nat → List Str} {N : List Str} {Φ : Fns} {k : Nat}

noncomputable def nxO {α β : Type} (o : Option (Fl × α × β)) : Option (α × β) := o.bind fun p => match p.1 with
  | .nx => some p.2
  | .rt _ => none
theorem nxO_some {α β : Type} {o : Option (Fl × α × β)} {p : α × β} (h : nxO o = some p) : o = some (.nx, p) := by
  obtain ⟨⟨fl, q⟩, h1, h⟩ := bindsome h
  cases fl with
  | nx => rw [h1, ← someq (show some q = some p from h)]
  | rt v => exact nosome h
noncomputable def secV : En → Option (V × En)
  | _ :: some v :: r => some (v, r)
  | _ => none
theorem secV_some {ρ : En} {p : V × En} (h : secV ρ = some p) : ∃ w, ρ = w :: some p.1 :: p.2 := by
  cases ρ with
  | nil => exact nosome h
  | cons w ρ =>
    cases ρ with
    | nil => exact nosome h
    | cons v ρ =>
      cases v with
      | none => exact nosome h
      | some v => rw [← someq h]; exact ⟨w, rfl⟩
noncomputable def initF (Φ : Fns) (n : Nat) (p1 p2 : PSs) (v0 : V) (H : Hp) : Option (V × Hp) :=
  (nxO (exs Φ p1 (some .none :: some v0 :: List.replicate (n - 2) none) H)).bind fun p => (secV p.1).bind fun q => (nxO (exs Φ p2 (some (.hdr q.1) :: some q.1 :: q.2) p.2)).bind fun u => some (.hdr q.1, u.2)

noncomputable def SelfFree (Φ : Fns) (n : Nat) (p1 : PSs) : Prop := ∀ (u v0 : V) (H : Hp) (ρ' : En) (H1 : Hp) (w : Option V), exs Φ p1 (some .none :: some v0 :: List.replicate (n - 2) none) H = some (.nx, w :: ρ', H1) →
  exs Φ p1 (some u :: some v0 :: List.replicate (n - 2) none) H = some (.nx, some u :: ρ', H1)

theorem dict_write {g : List Addr} {φ : List Addr} {H : Hp} {env : Env} {m : Str → Option Value} {ρ : En} {h h' : Heap} {dx : Addr} (st : St (c.wg g) φ H env.locals m h) (er : ERel (c.wg g) N h φ env m ρ) (hd : h.get? dx = some (dictOf [] 0)) (h0 : c.h₀.get? dx = none)
    (k : ∀ a o, h.get? a = some o → a ≠ dx → a ≠ env.locals → h'.get? a = some o) (ns : h'.Ns env.locals m) :
    St (c.wg g) φ H env.locals m h' ∧ ERel (c.wg g) N h' φ env m ρ ∧ ∀ {v : V} {x : Value}, VRel (c.wg g) h φ v x → VRel (c.wg g) h' φ v x := by
  have nd : ∀ o, h.get? dx = some o → ¬ Dur o := fun o e d => by
    rw [hd] at e; cases e
    simp [Dur, nsFind, findBy] at d
  have kd : ∀ b o, h.get? b = some o → b ∉ φ → b ∉ g → Dur o → h'.get? b = some o := fun b o e _ _ d => k b o e (fun q => nd o (q ▸ e) d) (st.l.notDur e d)
  have vr : ∀ {v : V} {x : Value}, VRel (c.wg g) h φ v x → VRel (c.wg g) h' φ v x := fun r => r.mono kd st.w.isL st.w.gh ⟨[], by simp, by simp⟩
  have vrs : ∀ {v : List V} {x : List Value}, VRels (c.wg g) h φ v x → VRels (c.wg g) h' φ v x := fun r => r.mono kd st.w.isL st.w.gh ⟨[], by simp, by simp⟩
  have cellK : ∀ {a : Addr} {y : Option Value}, h.IsCell a y → h'.IsCell a y := fun {a y} ⟨o, e, d⟩ => ⟨o, k a o e (fun q => by rw [q, hd] at e; cases e; cases d) (fun q => by
    obtain ⟨o', es, ep, es', h1, _⟩ := st.l.ns
    rw [← q, e] at es'; cases es'
    rw [h1] at d; cases d), d⟩
  refine ⟨⟨⟨fun b hb => ?_, fun b o e => k b o (st.w.stays b o e) (fun q => by rw [q] at e; have h0' := h0; dsimp only at e; rw [h0'] at e; cases e) (fun q => by rw [q] at e; have h0' := st.l.new; rw [h0'] at e; cases e), st.w.fresh, st.w.nodup, st.w.len, fun n l e => ?_⟩, ns, st.l.nk, st.l.above⟩, ?_, vr⟩
  · obtain ⟨h1, h2, o, e, q⟩ := st.w.ghs b hb
    exact ⟨h1, h2, o, k b o e (fun q' => nd o (q' ▸ e) q.dur) (st.l.notSeq e q), q⟩
  · obtain ⟨b, xs, q, h1, h2, h3⟩ := st.w.cells n l e
    exact ⟨b, xs, q, h1, k b _ h2 (fun q' => nd (lobj xs q) (q' ▸ h2) trivial) (st.l.notDur h2 trivial), vrs h3⟩
  · exact ⟨er.nd, er.fn, er.gl, er.bi, fun i v id e n q => let ⟨y, h1, h2⟩ := er.loc i v id e n q; ⟨y, h1, vr h2⟩, fun i v id e n q => let ⟨a, y, h1, h2, h3⟩ := er.cel i v id e n q; ⟨a, y, h1, cellK h2, vr h3⟩,
      fun i q => let ⟨a, y, h1, h2⟩ := er.has i q; ⟨a, y, h1, cellK h2⟩, er.dis⟩

theorem class_call {a : Addr} {fd : FuncData} {b1 b2 : List Stmt} {sid hid : Str} {q1 q2 q3 q4 : Pos} {p1 p2 : PSs} (fa : FnAt c N (.ref a) a fd (b1 ++ .Assign [.Attribute (.Name sid q1) hkey q2] (.Name hid q3) q4 :: b2) [sid, hid]) (G : GF c) (K : GC c a)
    (hm1 : MSs c kw N fd.scope b1 p1) (hm2 : MSs c kw N fd.scope b2 p2) (sts : ∀ p, StsOk c prog w kw N Φ k p) (hpv : ∀ x, c.pv (x + 2) = .ref x) (hsf : SelfFree Φ N.length p1) (hs : fd.scope.names.lookup sid = some .local) (hh : fd.scope.names.lookup hid = some .local)
    (hds : (sid == ("__debug__" : Str)) = false) (hdh : (hid == ("__debug__" : Str)) = false)
    {g : List Addr} {A : Around} {E : Value → Shared → Prop} {s : Shared} {φ : List Addr} {H : Hp} {L : Addr} {m : Str → Option Value} {vs : List Value} {v0 : V} {hv : Value} {r : V} {H' : Hp} {Q : Value → Shared → Prop}
    (ao : AOk A (k + 2)) (st : St (c.wg g) φ H L m s.heap) (rv : VRel (c.wg g) s.heap φ v0 hv) (hbind : ∀ (x : Addr) (h' : Heap), KeepA c.h₀ h' → BindsTo { s with heap := h' } fd ⟨.ref x :: vs, []⟩ [(sid, .ref x), (hid, hv)])
    (he : initF Φ N.length p1 p2 v0 H = some (r, H')) (post : Post (c.wg g) φ L m s r H' Q) : wpAny (model prog w) A (call (.ref c.C) vs []) Q E s := by
  have hN0 : N[0]? = some sid := fa.pre 0 sid rfl
  have hN1 : N[1]? = some hid := fa.pre 1 hid rfl
  refine call_cls (K := c.K) st.fr G.k (ledger_news c.h₀ s.heap L) K.mak K.ini K.isf fun x dx h' F' N' hlt hxd => ?_
  have kp0 : KeepL L s.heap h' := keep_ledger F' N' (fun p hp => .tail _ (.tail _ hp)) st.w.stays
  have st' : St (c.wg g) φ H L m h' := st.keepL kp0 F'.ns
  have hx' := (N' (x, instObj c.C dx) (.head _)).1
  have hdx' := (N' (dx, dictOf [] 0) (.tail _ (.head _))).1
  have rv' : VRel (c.wg g) h' φ v0 hv := rv.keepL st.w st.l kp0
  have dep : (A.under (.builtin "type.__call__" ⟨.ref c.C :: vs, []⟩)).depth = A.depth + 1 := rfl
  have uni : (A.under (.builtin "type.__call__" ⟨.ref c.C :: vs, []⟩)).units = A.units + 1 := rfl
  have hhd : (A.under (.builtin "type.__call__" ⟨.ref c.C :: vs, []⟩)).handled = A.handled := rfl
  refine call_open (s0 := { s with heap := h' }) (s := { s with heap := h' }) (ρ0 := some (.pat (x + 2)) :: some v0 :: List.replicate (N.length - 2) none) (fx := [.ref x, hv]) fa G (by rw [dep]; have := ao.dep; omega) F'.keep st' (hbind x h' F'.keep) (fun {i id v} e n => ?_) fun env E' h1 t1 hsc ow st1 er1 kp hLn hcn => ?_
  · match i, e with
    | 0, e => rw [hN0] at n; cases n; exact ⟨rfl, _, rfl, by cases e; exact (hpv x).symm⟩
    | 1, e => rw [hN1] at n; cases n; exact ⟨rfl, _, rfl, by cases e; exact rv'⟩
    | i + 2, e =>
      exfalso
      unfold getE at e
      simp only [List.getElem?_cons_succ] at e
      cases q : (List.replicate (N.length - 2) (none : Option V))[i]? with
      | none => rw [q] at e; simp at e
      | some o =>
        rw [q] at e
        have := List.mem_of_getElem? q
        rw [List.mem_replicate] at this
        rw [this.2] at e; simp at e
  · have aok : AOk ((A.under (.builtin "type.__call__" ⟨.ref c.C :: vs, []⟩)).deeper env) k := ⟨ao.hh, by
      show A.depth + 1 + 1 + 8 * k + 8 < recursionLimit
      have := ao.dep; omega, by
      show A.units + 1 + 3 + 32 * k + 128 < cLine
      have := ao.uni; omega⟩
    refine bd_elim he fun pa h1' he1 => bd_elim he1 fun pb h2' he2 => bd_elim he2 fun pc h3' he3 => ?_
    obtain ⟨ρa, H1⟩ := pa
    obtain ⟨v, r1⟩ := pb
    obtain ⟨ρe, H2⟩ := pc
    have e1 := nxO_some h1'
    have e2 := nxO_some h3'
    obtain ⟨w1, q1⟩ := secV_some h2'
    dsimp only at q1 e2
    obtain rfl := q1
    obtain ⟨rfl, rfl⟩ := some2 he3
    have e1' := hsf (.pat (x + 2)) v0 H _ _ _ e1
    have alive : ∀ {b : Addr} {o : Obj}, h'.get? b = some o → b ∉ φ → ¬ isCellO o → h1.get? b = some o ∧ b ≠ env.locals ∧ ∀ y, fd.scope.names.lookup y = some .cell → env.cells.lookup y ≠ some b := fun {b o} e n nc =>
      ⟨kp b o e, (fun q => by rw [q] at e; dsimp only at hLn; rw [hLn] at e; cases e), fun y hy hc => by have := hcn y b hy hc; dsimp only at this; rw [this] at e; cases e⟩
    have xφ : x ∉ φ := fun hm => by obtain ⟨ys, q, e⟩ := st'.w.isL x hm; rw [hx'] at e; simp at e
    have dφ : dx ∉ φ := fun hm => by obtain ⟨ys, q, e⟩ := st'.w.isL dx hm; rw [hdx'] at e; simp at e
    obtain ⟨x1, x2, x3⟩ := alive hx' xφ (fun ⟨_, q⟩ => by cases q)
    obtain ⟨d1, d2, d3⟩ := alive hdx' dφ (fun ⟨_, q⟩ => by cases q)
    refine wpAny_execs_append (sts p1 hm1 hsc ow aok (s := (sht s h1 t1)) st1 er1 e1' fun h2 t2 φ2 m2 u2 st2 er2 => ?_)
    have hx2 := u2.keep x _ x1 xφ x2 x3
    have hd2 := u2.keep dx _ d1 dφ d2 d3
    have kdl : ∀ {y : Str}, fd.scope.names.lookup y = some .local → env.kindOf y = some .local := fun {y} q => (ScOk.self hsc).loc y q
    obtain ⟨y1, my1, ry1⟩ := er2.loc 1 v hid rfl hN1 (kdl hh)
    obtain ⟨y0, my0, ry0⟩ := er2.loc 0 (.pat (x + 2)) sid rfl hN0 (kdl hs)
    have ry0 : y0 = c.pv (x + 2) := ry0
    rw [hpv] at ry0
    subst ry0
    refine wpAny_execs_cons (plainObj_wpAny_Assign_Attribute (wpAny_Name (wpAny_loadName_local er2.fn (kdl hh) st2.l.ns my1 (wpAny_Name (wpAny_loadName_local er2.fn (kdl hs) st2.l.ns my0 ?_) hds)) hdh) rfl)
    refine set_hdr G K st2 hx2 hd2 (N' (dx, dictOf [] 0) (.tail _ (.head _))).2.2 d2 fun h3 t3 hsh ht hn k3 hd3 ns3 => ?_
    obtain ⟨st3, er3, vr3⟩ := dict_write st2 er2 hd2 (N' (dx, dictOf [] 0) (.tail _ (.head _))).2.2 k3 ns3
    have hx3 : h3.get? x = some (instObj c.C dx) := k3 x _ hx2 (fun q => by subst q; rw [hx2] at hd2; simp at hd2) x2
    have rh : VRel (c.wg g) h3 φ2 (.hdr v) (.ref x) := ⟨x, dx, hsh, ht, hn, y1, rfl, hx3, hd3, vr3 ry1⟩
    have er4 : ERel (c.wg g) N h3 φ2 env m2 (some (.hdr v) :: some v :: r1) := by
      refine ⟨er3.nd, er3.fn, er3.gl, er3.bi, fun i w id e n q => ?_, fun i w id e n q => ?_, er3.has, er3.dis⟩
      · match i, e with
        | 0, e =>
          rw [hN0] at n; cases n; cases e
          exact ⟨_, my0, rh⟩
        | i + 1, e => exact er3.loc (i + 1) w id e n q
      · match i, e with
        | 0, e =>
          rw [hN0] at n; cases n
          rw [kdl hs] at q; rcases q with q | q <;> cases q
        | i + 1, e => exact er3.cel (i + 1) w id e n q
    have sN : ∀ {b : Addr}, h'.get? b = none → s.heap.get? b = none := fun {b} e => by
      cases q : s.heap.get? b with
      | none => rfl
      | some o =>
        by_cases hb : b = L
        · obtain ⟨oL, _, _, eL, _⟩ := F'.ns
          rw [hb, eL] at e; cases e
        · rw [kp0 b o q hb] at e; cases e
    obtain ⟨oL, esL, epL, eL, dL⟩ := F'.ns
    have hsL : s.heap.get? env.locals = none := sN hLn
    have hsc' : ∀ y b, fd.scope.names.lookup y = some .cell → env.cells.lookup y = some b → s.heap.get? b = none := fun y b p q => sN (hcn y b p q)
    have hLe : L ≠ env.locals := fun q => by have := hLn; dsimp only at this; rw [← q, eL] at this; cases this
    have hLd : L ≠ dx := fun q => by
      subst q
      have := dL.1
      rw [hdx'] at eL; cases eL
      have := st'.l.new
      exact (N' (L, dictOf [] 0) (.tail _ (.head _))).2.1 rfl
    have L1 : h1.get? L = some oL := kp L oL eL
    have uB : Up L s.heap φ h2 φ2 := Up.thenS (c := (c.wg g)) (Up.of_keepL (fun a o e n => kp a o (kp0 a o e n))) st1 u2 hsL hsc' fun _ _ => ⟨_, L1⟩
    have hLc : ∀ y, fd.scope.names.lookup y = some .cell → env.cells.lookup y ≠ some L := fun y hy hc => by have := hcn y L hy hc; dsimp only at this; rw [this] at eL; cases eL
    have L2 : h2.get? L = some oL := u2.keep L oL L1 (st'.l.notCell st'.w) hLe hLc
    have L3 : h3.get? L = some oL := k3 L oL L2 hLd hLe
    have sd : s.heap.get? dx = none := by
      cases q : s.heap.get? dx with
      | none => rfl
      | some o => exact absurd (hlt _ (mem_ledger q (Ne.symm hLd) (N' (dx, dictOf [] 0) (.tail _ (.head _))).2.2)) (Nat.lt_irrefl _)
    have uC : Up L s.heap φ h3 φ2 := ⟨uB.ext, fun b o e n l => k3 b o (uB.keep b o e n l) (fun q => by rw [q, sd] at e; cases e) (fun q => by rw [q, hsL] at e; cases e)⟩
    refine sts p2 hm2 hsc ow aok (s := (sht s h3 t3)) st3 er4 e2 fun h5 t5 φ5 m5 u5 st5 er5 => ?_
    have lo3 : Lo (c.wg g) L m h3 := ⟨F'.ns.at' fun o e => by rw [eL] at e; cases e; exact L3, st.l.nk, st.l.above⟩
    have L5 : h5.get? L = some oL := u5.keep L oL L3 (lo3.notCell st3.w) hLe hLc
    have uD : Up L s.heap φ h5 φ5 := Up.thenS (c := (c.wg g)) uC st3 u5 hsL hsc' fun _ _ => ⟨_, L3⟩
    refine ⟨rfl, post (.ref x) h5 t5 φ5 uD ⟨st5.w, F'.ns.at' fun o e => by rw [eL] at e; cases e; exact L5, st.l.nk, st.l.above⟩ ?_⟩
    exact rh.upS (c := (c.wg g)) (.self hsc) st3 er4 u5
end
end Mine

-- M37
set_option autoImplicit false
set_option maxRecDepth 100000
namespace Mine
open PySem PySem.W PyProof.Rows

section
variable {c : Cx} {prog : Program} {w : World} {kw : Nat → List Str} {N : List Str} {Φ : Fns} {k : Nat}

noncomputable def isH : List V → Bool
  | .hdr _ :: _ => true
  | _ => false
noncomputable def addU (Φ : Fns) (n : Nat) (p1 p2 : PSs) (args : List V) (H : Hp) (u : V) : Option (V × Hp) :=
  (nxO (exs Φ p1 (slots0 n (args ++ [u])) H)).bind fun p => @ite _ (getE p.1 3 = some u) (Classical.propDecidable _) ((exs Φ p2 p.1 p.2).map fun r => (flV r.1, r.2.2)) none
noncomputable def addF (Φ : Fns) (n : Nat) (p1 p2 : PSs) (args : List V) (H : Hp) : Option (V × Hp) :=
  if args.length = 3 ∧ isH args = true then (addU Φ n p1 p2 args H (.pat 2)).bind fun r => @ite _ (∀ k, addU Φ n p1 p2 args H (.pat k) = some r) (Classical.propDecidable _) (some r) none else none

structure AddAt (fd : FuncData) (b1 b2 : List Stmt) (pid : Str) (body : List Stmt) : Prop where
  b : ∃ xk xv pk pv x1 pt pp apos cpos lb pos, body = b1 ++ .For (.Tuple [.Name xk pk, .Name xv pv] x1 pt) (.Call (.Attribute (.Name pid pp) "items" apos) [] [] cpos) lb [] pos :: b2 ∧
    fd.scope.names.lookup xk = some .local ∧ fd.scope.names.lookup xv = some .local ∧ (apos.endLine == cpos.line) = true
  hp : fd.scope.names.lookup pid = some .local
  hd : (pid == ("__debug__" : Str)) = false

theorem dictAt_nil {h : Heap} {D : Addr} (e : h.get? D = some (dictOf [] 0)) : h.DictAt (strKind prog w) D [] 0 := ⟨_, #[], e, ⟨rfl, rfl, rfl⟩, rfl, fun x hx => (by simp at hx), .nil, List.nodup_nil⟩

theorem add_call {f : Value} {a : Addr} {fd : FuncData} {b1 b2 body : List Stmt} {pid : Str} {ps : List Str} {p1 p2 : PSs} (fa : FnAt c N f a fd body ps) (G : GF c) (L3 : AddAt fd b1 b2 pid body) (hps : ps.length = 4) (hp3 : ps[3]? = some pid)
    (hm1 : MSs c kw N fd.scope b1 p1) (hm2 : MSs c kw N fd.scope b2 p2) (sts : ∀ p, StsOk c prog w kw N Φ k p) (hpv : ∀ x, c.pv (x + 2) = .ref x)
    {g : List Addr} {A : Around} {E : Value → Shared → Prop} {s : Shared} {φ : List Addr} {H : Hp} {L : Addr} {m : Str → Option Value} {args : List V} {vs : List Value} {r : V} {H' : Hp} {Q : Value → Shared → Prop}
    (ao : AOk A (k + 1)) (st : St (c.wg g) φ H L m s.heap) (rs : VRels (c.wg g) s.heap φ args vs)
    (hbind : ∀ (M : Model) (A : Around) (E : Value → Shared → Prop) (Q : List (Str × Value) → Shared → Prop), Q (ps.zip (vs ++ [.ref s.heap.objs.size])) { s with heap := s.heap.push (dictOf [] 0) } → wpAny M A (bindArgs fd ⟨vs, []⟩) Q E s)
    (he : addF Φ N.length p1 p2 args H = some (r, H')) (post : Post (c.wg g) φ L m s r H' Q) : wpAny (model prog w) A (call f vs []) Q E s := by
  obtain ⟨⟨hlen, _⟩, he⟩ := ifsome he
  obtain ⟨r0, _, he⟩ := bindsome he
  obtain ⟨he, hr⟩ := @ifsome _ _ (Classical.propDecidable _) _ _ he
  rw [someq hr] at he
  have he := he (s.heap.objs.size + 2)
  obtain ⟨⟨ρ1, H1⟩, e1, he⟩ := bindsome he
  obtain ⟨h3, he⟩ := @ifsome _ _ (Classical.propDecidable _) _ _ he
  have e1 := nxO_some e1
  have kA : KeepA s.heap (s.heap.push (dictOf [] 0)) := keepA_push _ _
  have st1 : St (c.wg g) φ H L m (s.heap.push (dictOf [] 0)) := st.ext kA
  have eD : (s.heap.push (dictOf [] 0)).get? s.heap.objs.size = some (dictOf [] 0) := Heap.get?_push_size _ rfl
  have nD : s.heap.get? s.heap.objs.size = none := get_none_of_le (Nat.le_refl _)
  have hN3 : N[3]? = some pid := fa.pre 3 pid hp3
  have rs4 : VRels (c.wg g) (s.heap.push (dictOf [] 0)) φ (args ++ [.pat (s.heap.objs.size + 2)]) (vs ++ [.ref s.heap.objs.size]) :=
    (rs.grow (c := (c.wg g)) st kA fun a ha => .inl ha).append (.cons (hpv _).symm .nil)
  obtain ⟨xk, xv, pk, pv, x1, pt, pp, apos, cpos, lb, pos, rfl, hxk, hxv, hline⟩ := L3.b
  rw [fa.v]
  refine wpAny_call (call_open (s0 := s) (s := { s with heap := s.heap.push (dictOf [] 0) }) (ρ0 := slots0 N.length (args ++ [.pat (s.heap.objs.size + 2)])) (fx := vs ++ [.ref s.heap.objs.size]) fa G (by have := ao.dep; omega) st.w.stays st1 hbind
    (fun {i id v} e n => pos_of rs4 fa.pre (by rw [List.length_append, hlen, hps]; rfl) e n) fun env E' h1 t1 hsc ow st2 er2 kp hLn hcn => ?_)
  have so := ScOk.self hsc
  have kdl : ∀ {y : Str}, fd.scope.names.lookup y = some .local → env.kindOf y = some .local := fun {y} q => so.loc y q
  have eD1 := kp _ _ eD
  have dL : s.heap.objs.size ≠ env.locals := fun q => by rw [q] at eD; exact absurd (eD.symm.trans hLn) (by simp)
  have dC : ∀ y, fd.scope.names.lookup y = some .cell → env.cells.lookup y ≠ some s.heap.objs.size := fun y hy hc => by have := hcn y _ hy hc; exact absurd (eD.symm.trans this) (by simp)
  have dφ : s.heap.objs.size ∉ φ := fun hm => by obtain ⟨ys, q, e⟩ := st.w.isL _ hm; rw [nD] at e; cases e
  refine wpAny_execs_append (sts p1 hm1 hsc ow ao.in1 (s := (sht s h1 t1)) st2 er2 e1 fun h2 t2 φ2 m2 u2 st3 er3 => ?_)
  have eD2 := u2.keep _ _ eD1 dφ dL dC
  obtain ⟨y0, my0, ry0⟩ := er3.loc 3 _ pid h3 hN3 (kdl L3.hp)
  have ry0 : y0 = c.pv (s.heap.objs.size + 2) := ry0
  rw [hpv] at ry0
  subst ry0
  have hS : (s.heap.objs.size == sysModules) = false := by
    obtain ⟨_, hn, _⟩ := G.nl.keeps st.w.stays
    exact beq_eq_false_iff_ne.mpr fun q => absurd (Nat.lt_trans (show sysModules < _ by decide) hn.lt) (by rw [q]; exact Nat.lt_irrefl _)
  refine wpAny_execs_cons (wpAny_For (wpAny_Call_items (knd := strKind prog w) hS (dictAt_nil (prog := prog) (w := w) eD2).dictOf rfl hline (fun Q' q => wpAny_Name (wpAny_loadName_local er3.fn (kdl L3.hp) st3.l.ns my0 q) L3.hd) ?_) (fun _ => rfl))
  refine wpAny_pyIter_items (knd := strKind prog w) (d := s.heap.objs.size) (kvs := []) (ep := 0) ⟨_, Heap.get?_push_size _ rfl, rfl, rfl⟩ ((dictAt_nil eD2).push _) ?_
  have hsz : (h2.push { cls := .type "dict_items", data := .fields #[.ref s.heap.objs.size] }).objs.size = h2.objs.size + 1 := Heap.size_push ..
  have hLt : env.locals < h2.objs.size := st3.l.ns.lt
  have hDt : s.heap.objs.size < h2.objs.size := Heap.lt_size eD2
  refine codeAny_forLoop_items_locals (knd := strKind prog w) (d := s.heap.objs.size) (kvs := []) (ep := 0) (m := m2) (show A.handled = none from ao.hh) (kdl hxk) (kdl hxv) (by rw [er3.fn]; rfl) ?_ dL ?_
    (Heap.get?_push_size _ rfl) (((dictAt_nil eD2).push _).push _) ((st3.l.ns.push _).push _) (fun _ m' => m' = m2) rfl (fun i _ _ _ _ _ q => by simp at q) fun h3' t3 m3 hn3 hm3 hk => ?_
  · show (Heap.push _ _).objs.size ≠ env.locals
    rw [hsz]; exact Nat.ne_of_gt (Nat.lt_succ_of_lt hLt)
  · show s.heap.objs.size ≠ (Heap.push _ _).objs.size
    rw [hsz]; exact Nat.ne_of_lt (Nat.lt_succ_of_lt hDt)
  subst hm3
  have k3 : KeepL env.locals h2 h3' := fun b o e n => hk b o n (by
    show b ≠ (Heap.push _ _).objs.size
    rw [hsz]; exact Nat.ne_of_lt (Nat.lt_succ_of_lt (Heap.lt_size e))) (Heap.get?_push_of_some _ (Heap.get?_push_of_some _ e))
  have u3 : Up env.locals h2 φ2 h3' φ2 := .of_keepL k3
  have st4 := st3.keepL k3 hn3
  have er4 := er3.up st3 u3
  obtain ⟨⟨fl, ρ', H4⟩, e4, he⟩ := Option.map_eq_some_iff.mp he
  obtain ⟨rfl, rfl⟩ := some2 (congrArg some he)
  have up1 : Up env.locals s.heap φ h1 φ := .of_keepL fun a o e _ => kp a o (kA a o e)
  have hLn' := noneOf kA hLn
  have fin : ∀ {h' : Heap} {tk : Nat} {φ' : List Addr} {m' : Str → Option Value} {val : Value}, UpS fd.scope env h3' φ2 h' φ' → St (c.wg g) φ' H4 env.locals m' h' → VRel (c.wg g) h' φ' (flV fl) val → Q val (sht s h' tk) := fun {h' tk φ' m' val} u st' rv => by
    have uu := up1.thenS st2 ((u2.trans so st3 er3 (Up.toS u3)).trans so st4 er4 u) hLn' (fun x a p q => noneOf kA (hcn x a p q)) (fun o e => by rw [hLn'] at e; cases e)
    have ne : ∀ {a : Addr} {o : Obj}, s.heap.get? a = some o → a ≠ env.locals := fun {a o} e q => by rw [q, hLn'] at e; cases e
    exact post val h' tk φ' ⟨uu.ext, fun a o e n _ => uu.keep a o e n (ne e)⟩ ⟨st'.w, st.l.ns.at' fun o e => uu.keep L o e (st.l.notCell st.w) (ne e), st.l.nk, st.l.above⟩ rv
  cases fl with
  | nx => exact sts p2 hm2 hsc ow ao.in1 (s := (sht s h3' t3)) st4 er4 e4 fun h' tk φ' m' u st' er' => fin u st' rfl
  | rt v => exact sts p2 hm2 hsc ow ao.in1 (s := (sht s h3' t3)) st4 er4 e4 fun h' tk φ' m' u st' er' val hv => fin u st' hv
end
end Mine

-- C1
set_option autoImplicit false
set_option maxRecDepth 100000
set_option genInjectivity false
set_option genSizeOf false
namespace Mine
open PySem PySem.W PyProof.Rows

structure Tab where
  fns : List (Str × Nat)
  meths : List (Str × Nat)
  nums : List (Str × Int)
  pats : List (Str × Nat)
  kw : Nat → List Str

noncomputable def b1Name : B1 → Str
  | .len => "len"
  | .int => "int"
  | .chr => "chr"
  | .sum => "sum"
  | .sorted => "sorted"
  | .range => "range"
  | .lower => "lower"
  | .upper => "upper"

structure TabOk (c : Cx) (T : Tab) : Prop where
  fns : ∀ id f, (id, f) ∈ T.fns → c.gl id (c.fv f) ∧ keepIn c.K (c.fv f) = true
  meths : ∀ name f, (name, f) ∈ T.meths → MethAt c name f
  nums : ∀ id i, (id, i) ∈ T.nums → ∃ t, c.gl id (.int i t)
  pats : ∀ id k, (id, k) ∈ T.pats → c.gl id (c.pv k)
  b1 : ∀ f : B1, f ≠ .lower → f ≠ .upper → c.gl (b1Name f) (f1Of f)
  min : c.gl "min" (.builtin "min")
  type : c.gl "type" (.type "type")
  list : c.gl "list" (.type "list")
  str : c.gl "str" (.type "str")
  zip : c.gl "zip" (.type "zip")
  enum : c.gl "enumerate" (.type "enumerate")

noncomputable def has {β : Type} [DecidableEq β] (l : List (Str × β)) (x : Str) (y : β) : Bool := l.any fun p => decide (p.1 = x) && decide (p.2 = y)
theorem has_mem {β : Type} [DecidableEq β] {l : List (Str × β)} {x : Str} {y : β} (h : has l x y = true) : (x, y) ∈ l := by
  obtain ⟨p, hp, e⟩ := List.any_eq_true.mp h
  rw [Bool.and_eq_true, decide_eq_true_eq, decide_eq_true_eq] at e
  rw [← e.1, ← e.2]; exact hp

structure Chk (P : Prop) where
  b : Bool
  ok : b = true → P
section
variable {P A B C D : Prop}
noncomputable def Chk.no : Chk P := ⟨false, fun h => Bool.noConfusion h⟩
noncomputable def Chk.yes (h : P) : Chk P := ⟨true, fun _ => h⟩
noncomputable def Chk.t (b : Bool) : Chk (b = true) := ⟨b, fun h => h⟩
noncomputable def Chk.f (b : Bool) : Chk (b = false) := ⟨!b, fun h => (Bool.not_eq_true' b).mp h⟩
noncomputable def Chk.d (p : Prop) [Decidable p] : Chk p := ⟨decide p, fun h => of_decide_eq_true h⟩
noncomputable def Chk.map (f : A → P) (x : Chk A) : Chk P := ⟨x.b, fun h => f (x.ok h)⟩
theorem and_l {a b : Bool} (h : (a && b) = true) : a = true := (Bool.and_eq_true a b).mp h |>.1
theorem and_r {a b : Bool} (h : (a && b) = true) : b = true := (Bool.and_eq_true a b).mp h |>.2
noncomputable def Chk.both (f : A → B → P) (x : Chk A) (y : Chk B) : Chk P := ⟨x.b && y.b, fun h => f (x.ok (and_l h)) (y.ok (and_r h))⟩
noncomputable def Chk.three (f : A → B → C → P) (x : Chk A) (y : Chk B) (z : Chk C) : Chk P := .both (fun a p => f a p.1 p.2) x (.both And.intro y z)
noncomputable def Chk.four (f : A → B → C → D → P) (x : Chk A) (y : Chk B) (z : Chk C) (u : Chk D) : Chk P := .both (fun p q => f p.1 p.2 q.1 q.2) (.both And.intro x y) (.both And.intro z u)
noncomputable def Chk.or (x y : Chk P) : Chk P := ⟨x.b || y.b, fun h => ((Bool.or_eq_true x.b y.b).mp h).elim x.ok y.ok⟩
noncomputable def Chk.sub {α : Type} [DecidableEq α] {Q : α → Prop} (x y : α) (k : Chk (Q x)) : Chk (Q y) := ⟨decide (x = y) && k.b, fun h => of_decide_eq_true (and_l h) ▸ k.ok (and_r h)⟩
end
section
variable {α : Type} {P : List α → Prop}
noncomputable def vNil (l : List α) (k : Chk (P [])) : Chk (P l) := by
  cases l with
  | nil => exact k
  | cons => exact .no
noncomputable def vCons (l : List α) (k : ∀ x r, Chk (P (x :: r))) : Chk (P l) := by
  cases l with
  | nil => exact .no
  | cons x r => exact k x r
noncomputable def vOne (l : List α) (k : ∀ x, Chk (P [x])) : Chk (P l) := vCons l fun x r => vNil (P := fun r => P (x :: r)) r (k x)
noncomputable def vTwo (l : List α) (k : ∀ x y, Chk (P [x, y])) : Chk (P l) := vCons l fun x r => vOne (P := fun r => P (x :: r)) r (k x)
noncomputable def vThree (l : List α) (k : ∀ x y z, Chk (P [x, y, z])) : Chk (P l) := vCons l fun x r => vTwo (P := fun r => P (x :: r)) r (k x)
end
section
variable {P : Expr → Prop}
noncomputable def vBin (e : Expr) (k : ∀ l o r p, Chk (P (.BinOp l o r p))) : Chk (P e) := by
  cases e with
  | BinOp l o r p => exact k l o r p
  | _ => exact .no
noncomputable def vCmp (e : Expr) (k : ∀ l o r p, Chk (P (.Compare l o r p))) : Chk (P e) := by
  cases e with
  | Compare l o r p => exact k l o r p
  | _ => exact .no
noncomputable def vBool (e : Expr) (k : ∀ o l p, Chk (P (.BoolOp o l p))) : Chk (P e) := by
  cases e with
  | BoolOp o l p => exact k o l p
  | _ => exact .no
noncomputable def vUn (e : Expr) (k : ∀ o l p, Chk (P (.UnaryOp o l p))) : Chk (P e) := by
  cases e with
  | UnaryOp o l p => exact k o l p
  | _ => exact .no
noncomputable def vIf (e : Expr) (k : ∀ x y z p, Chk (P (.IfExp x y z p))) : Chk (P e) := by
  cases e with
  | IfExp x y z p => exact k x y z p
  | _ => exact .no
noncomputable def vSub (e : Expr) (k : ∀ x y p, Chk (P (.Subscript x y p))) : Chk (P e) := by
  cases e with
  | Subscript x y p => exact k x y p
  | _ => exact .no
noncomputable def vSlice (e : Expr) (k : ∀ x y z p, Chk (P (.Slice x y z p))) : Chk (P e) := by
  cases e with
  | Slice x y z p => exact k x y z p
  | _ => exact .no
noncomputable def vTup (e : Expr) (k : ∀ l n p, Chk (P (.Tuple l n p))) : Chk (P e) := by
  cases e with
  | Tuple l n p => exact k l n p
  | _ => exact .no
noncomputable def vList (e : Expr) (k : ∀ l p, Chk (P (.List l p))) : Chk (P e) := by
  cases e with
  | List l p => exact k l p
  | _ => exact .no
noncomputable def vCall (e : Expr) (k : ∀ f l w p, Chk (P (.Call f l w p))) : Chk (P e) := by
  cases e with
  | Call f l w p => exact k f l w p
  | _ => exact .no
noncomputable def vAttr (e : Expr) (k : ∀ o n p, Chk (P (.Attribute o n p))) : Chk (P e) := by
  cases e with
  | Attribute o n p => exact k o n p
  | _ => exact .no
noncomputable def vName (e : Expr) (k : ∀ i p, Chk (P (.Name i p))) : Chk (P e) := by
  cases e with
  | Name i p => exact k i p
  | _ => exact .no
noncomputable def vConst (e : Expr) (k : ∀ i n p, Chk (P (.Constant i n p))) : Chk (P e) := by
  cases e with
  | Constant i n p => exact k i n p
  | _ => exact .no
noncomputable def vComp (e : Expr) (k : ∀ x g s p, Chk (P (.ListComp x g s p))) : Chk (P e) := by
  cases e with
  | ListComp x g s p => exact k x g s p
  | _ => exact .no
end

noncomputable def ckG0 (sc : Scope) (id : Str) : Chk (sc.names.lookup id = some .globalImplicit) := .d _
noncomputable def ckDb (id : Str) : Chk ((id == ("__debug__" : Str)) = false) := .f _
noncomputable def ckG (sc : Scope) (id : Str) : Chk (sc.names.lookup id = some .globalImplicit ∧ (id == ("__debug__" : Str)) = false) := .both And.intro (ckG0 sc id) (ckDb id)
noncomputable def ckL (sc : Scope) (id : Str) : Chk (sc.names.lookup id = some .local ∨ sc.names.lookup id = some .cell) := .d _
noncomputable def isL (sc : Scope) (id : Str) : Bool := (ckL sc id).b
theorem isL_ok {sc : Scope} {id : Str} (h : isL sc id = true) : sc.names.lookup id = some .local ∨ sc.names.lookup id = some .cell := (ckL sc id).ok h
structure NmOk (N : List Str) (x : Nat) (sc : Scope) (id : Str) : Prop where
  n : N[x]? = some id
  l : sc.names.lookup id = some .local ∨ sc.names.lookup id = some .cell
  h : id ≠ hkey
noncomputable def ckNm (N : List Str) (x : Nat) (sc : Scope) (id : Str) : Chk (NmOk N x sc id) := .three NmOk.mk (.d _) (ckL sc id) (.d _)

noncomputable def ckSup (o : Expr) (name : Str) : Chk (∀ env w, attributeBase o name env w = w) := by
  cases o with
  | Call f l k p =>
    cases f with
    | Name => exact vCons (P := fun l => ∀ env w, attributeBase (.Call _ l k p) name env w = w) l fun x r => .yes fun _ _ => rfl
    | _ => exact .yes fun _ _ => rfl
  | _ => exact .yes fun _ _ => rfl
noncomputable def ckKn (p : PE) : Chk (p = .k .none) := by
  cases p with
  | k v =>
    cases v with
    | none => exact .yes rfl
    | _ => exact .no
  | _ => exact .no

noncomputable def ckT (N : List Str) (sc : Scope) (t : Tgt) (e : Expr) : Chk (MT N t sc e) := by
  cases t with
  | one x => exact vName e fun id p => .map (fun a => .one a.n a.l a.h) (ckNm N x sc id)
  | two x y => exact vTup e fun l n p => vTwo (P := fun l => MT N (.two x y) sc (.Tuple l n p)) l fun a b => vName (P := fun a => MT N (.two x y) sc (.Tuple [a, b] n p)) a fun i q => vName (P := fun b => MT N (.two x y) sc (.Tuple [.Name i q, b] n p)) b fun j r => .both (fun a b => .two a.n a.l a.h b.n b.l b.h) (ckNm N x sc i) (ckNm N y sc j)

noncomputable def chC (N : List Str) (sc sc2 : Scope) (cl : List Nat) : Chk (CScope N sc sc2 cl) :=
  .four (fun a b c d => ⟨a, b, c, d.1, d.2⟩) (.d _) (.d _) (.t _) (.both And.intro (.t _) (.t _))

noncomputable def ckConst (v : V) (k : Const) (n : Nat) (p : Pos) : Chk (VK v (.Constant k n p)) := by
  cases k with
  | none =>
    cases v with
    | none => exact .yes .none
    | _ => exact .no
  | bool b =>
    cases v with
    | bool c => exact .sub (Q := fun b => VK (.bool c) (.Constant (.bool b) n p)) c b (.yes .bool)
    | _ => exact .no
  | int b =>
    cases v with
    | int c => exact .sub (Q := fun b => VK (.int c) (.Constant (.int b) n p)) c b (.yes .int)
    | _ => exact .no
  | str b =>
    cases v with
    | str l => exact .map .str (.d (b = toS l))
    | _ => exact .no
  | _ => exact .no
noncomputable def ckDebug (v : V) (id : Str) (p : Pos) : Chk (VK v (.Name id p)) := by
  cases v with
  | bool c => exact .sub (Q := fun c => VK (.bool c) (.Name id p)) true c (.map .debug (.t _))
  | _ => exact .no
noncomputable def ckK (v : V) (e : Expr) : Chk (VK v e) := .or (vConst e fun k n p => ckConst v k n p) (vName e fun id p => ckDebug v id p)

section
variable {c : Cx} {T : Tab} {N : List Str} {A B X Y Z : Expr → Prop} {L : List Expr → Prop}

noncomputable def ckVar (N : List Str) (sc : Scope) (x : Nat) (e : Expr) : Chk (VVar N sc x e) := vName e fun id p => .four .var (.d _) (.d _) (ckDb id) (.f _)
noncomputable def ckGlob (t : TabOk c T) (sc : Scope) (v : V) (e : Expr) : Chk (VGlob c sc v e) := vName e fun id p => by
  cases v with
  | int i => exact .both (fun (h : has T.nums id i = true) g => (t.nums _ _ (has_mem h)).elim fun tk ht => .glob ht (fun g h φ => ⟨tk, rfl⟩) g.1 g.2) (.t _) (ckG sc id)
  | pat k => exact .both (fun (h : has T.pats id k = true) g => .glob (t.pats _ _ (has_mem h)) (fun g h φ => rfl) g.1 g.2) (.t _) (ckG sc id)
  | _ => exact .no
noncomputable def ckBin (op : BOp) (a : ∀ e, Chk (A e)) (b : ∀ e, Chk (B e)) (e : Expr) : Chk (VBin A B op e) := vBin e fun l o r p => .sub (Q := fun o => VBin A B op (.BinOp l o r p)) (bopOf op) o (.both .bin (a l) (b r))
noncomputable def ckRep (a : ∀ e, Chk (A e)) (b : ∀ e, Chk (B e)) (e : Expr) : Chk (VRep A B e) := vBin e fun l o r p => .sub (Q := fun o => VRep A B (.BinOp l o r p)) .Mult o (.both .rep (a l) (b r))
noncomputable def ckCmp (op : COp) (a : ∀ e, Chk (A e)) (b : ∀ e, Chk (B e)) (e : Expr) : Chk (VCmp A B op e) := vCmp e fun l os rs p => vOne (P := fun os => VCmp A B op (.Compare l os rs p)) os fun o => vOne (P := fun rs => VCmp A B op (.Compare l [o] rs p)) rs fun r =>
  .sub (Q := fun o => VCmp A B op (.Compare l [o] [r] p)) (copOf op) o (.three .cmp (a l) (b r) (.f _))
noncomputable def ckIsNone (neg : Bool) (a : ∀ e, Chk (A e)) (e : Expr) : Chk (VIsNone A neg e) := vCmp e fun l os rs p => vOne (P := fun os => VIsNone A neg (.Compare l os rs p)) os fun o => vOne (P := fun rs => VIsNone A neg (.Compare l [o] rs p)) rs fun r =>
  vConst (P := fun r => VIsNone A neg (.Compare l [o] [r] p)) r fun k n q => .sub (Q := fun o => VIsNone A neg (.Compare l [o] [.Constant k n q] p)) (if neg then .IsNot else .Is) o (.sub (Q := fun k => VIsNone A neg (.Compare l _ [.Constant k n q] p)) .none k (.map .isNone (a l)))
noncomputable def ckTypeIs (t : TabOk c T) (sc : Scope) (neg ls : Bool) (a : ∀ e, Chk (A e)) (e : Expr) : Chk (VTypeIs c sc A neg ls e) := vCmp e fun l os rs p => vOne (P := fun os => VTypeIs c sc A neg ls (.Compare l os rs p)) os fun o => vOne (P := fun rs => VTypeIs c sc A neg ls (.Compare l [o] rs p)) rs fun r =>
  vName (P := fun r => VTypeIs c sc A neg ls (.Compare l [o] [r] p)) r fun i q => vCall (P := fun l => VTypeIs c sc A neg ls (.Compare l [o] [.Name i q] p)) l fun f es ks cp => vName (P := fun f => VTypeIs c sc A neg ls (.Compare (.Call f es ks cp) [o] [.Name i q] p)) f fun ty tp =>
  vOne (P := fun es => VTypeIs c sc A neg ls (.Compare (.Call (.Name ty tp) es ks cp) [o] [.Name i q] p)) es fun x => vNil (P := fun ks => VTypeIs c sc A neg ls (.Compare (.Call (.Name ty tp) [x] ks cp) [o] [.Name i q] p)) ks (
  .sub (Q := fun o => VTypeIs c sc A neg ls (.Compare (.Call (.Name ty tp) [x] [] cp) [o] [.Name i q] p)) (if neg then .IsNot else .Is) o (
  .sub (Q := fun i => VTypeIs c sc A neg ls (.Compare (.Call (.Name ty tp) [x] [] cp) _ [.Name i q] p)) (if ls then "list" else "str") i (
  .sub (Q := fun ty => VTypeIs c sc A neg ls (.Compare (.Call (.Name ty tp) [x] [] cp) _ _ p)) "type" ty (
  .three (fun h h1 h2 => .typeIs h t.type h1 (by cases ls; exact t.str; exact t.list) h2) (a x) (ckG0 sc "type") (ckG0 sc _))))
  )
noncomputable def ckAnd (l : ∀ e, Chk (L e)) (e : Expr) : Chk (VAnd L e) := vBool e fun o x p => .sub (Q := fun o => VAnd L (.BoolOp o x p)) .And o (.map .and (l x))
noncomputable def ckOr (l : ∀ e, Chk (L e)) (e : Expr) : Chk (VOr L e) := vBool e fun o x p => .sub (Q := fun o => VOr L (.BoolOp o x p)) .Or o (.map .or (l x))
noncomputable def ckNot (a : ∀ e, Chk (A e)) (e : Expr) : Chk (VNot A e) := vUn e fun o x p => .sub (Q := fun o => VNot A (.UnaryOp o x p)) .Not o (.map .not (a x))
noncomputable def ckNeg (a : ∀ e, Chk (A e)) (e : Expr) : Chk (VNeg A e) := vUn e fun o x p => .sub (Q := fun o => VNeg A (.UnaryOp o x p)) .USub o (.map .neg (a x))
noncomputable def ckIte (t : ∀ e, Chk (X e)) (a : ∀ e, Chk (A e)) (b : ∀ e, Chk (B e)) (e : Expr) : Chk (VIte X A B e) := vIf e fun x y z p => .three .ite (t x) (a y) (b z)
noncomputable def ckIdx (a : ∀ e, Chk (A e)) (b : ∀ e, Chk (B e)) (e : Expr) : Chk (VIdx A B e) := vSub e fun x y p => .both .idx (a x) (b y)
noncomputable def ckO (p : PE) (a : ∀ e, Chk (A e)) (o : Option Expr) : Chk (VO A p o) := by
  cases o with
  | none => exact .map .none (ckKn p)
  | some e => exact .map .some (a e)
noncomputable def ckSl {P Q : Option Expr → Prop} (a : ∀ e, Chk (A e)) (l : ∀ o, Chk (P o)) (h : ∀ o, Chk (Q o)) (e : Expr) : Chk (VSl A P Q e) := vSub e fun x y p => vSlice (P := fun y => VSl A P Q (.Subscript x y p)) y fun u v w q => by
  cases w with
  | none => exact .three .sl (a x) (l u) (h v)
  | some => exact .no
noncomputable def ckTup (l : ∀ e, Chk (L e)) (e : Expr) : Chk (VTup L e) := vTup e fun x n p => .both .tup (l x) (.d _)
noncomputable def ckLst (l : ∀ e, Chk (L e)) (e : Expr) : Chk (VLst L e) := vList e fun x p => .map .lst (l x)
noncomputable def ckHdrs (a : ∀ e, Chk (A e)) (e : Expr) : Chk (VHdrs A e) := vAttr e fun o n p => .three .hdrs (ckSup o n) (.d _) (a o)

noncomputable def ckFn (t : TabOk c T) (sc : Scope) (f : Nat) (l : ∀ e, Chk (L e)) (e : Expr) : Chk (VCall c T.kw sc f L e) := vCall e fun g es ks p => .or
  (vName (P := fun g => VCall c T.kw sc f L (.Call g es ks p)) g fun id q => vNil (P := fun ks => VCall c T.kw sc f L (.Call (.Name id q) es ks p)) ks (.four (fun (h : has T.fns id f = true) g k x => .call (t.fns _ _ (has_mem h)).1 g.1 g.2 (t.fns _ _ (has_mem h)).2 k x) (.t _) (ckG sc id) (.d _) (l es)))
  (vAttr (P := fun g => VCall c T.kw sc f L (.Call g es ks p)) g fun o n q => .or
    (vNil (P := fun ks => VCall c T.kw sc f L (.Call (.Attribute o n q) es ks p)) ks (.four (fun s p m x => .mcall s p.1 p.2 (t.meths _ _ (has_mem m)) x.1 x.2) (ckSup o n) (.both And.intro (.t _) (.d _)) (.t (has T.meths n f)) (.both And.intro (.d _) (l (o :: es)))))
    (vOne (P := fun es => VCall c T.kw sc f L (.Call (.Attribute o n q) es ks p)) es fun x => vOne (P := fun ks => VCall c T.kw sc f L (.Call (.Attribute o n q) [x] ks p)) ks fun k => by
      cases k with
      | mk a v kp =>
        cases a with
        | none => exact .no
        | some kn => exact .four (fun s p m x => .mcallK s p (t.meths _ _ (has_mem m)) x.1 x.2) (ckSup o n) (.t _) (.t (has T.meths n f)) (.both And.intro (.d _) (l [o, x, v]))))

noncomputable def ckB1 (t : TabOk c T) (sc : Scope) (f : B1) (a : ∀ e, Chk (A e)) (e : Expr) : Chk (VB1 c sc f A e) := vCall e fun g es ks p => vNil (P := fun ks => VB1 c sc f A (.Call g es ks p)) ks (.or
  (vName (P := fun g => VB1 c sc f A (.Call g es [] p)) g fun id q => vOne (P := fun es => VB1 c sc f A (.Call (.Name id q) es [] p)) es fun x =>
    .sub (Q := fun id => VB1 c sc f A (.Call (.Name id q) [x] [] p)) (b1Name f) id (.four (fun h1 h2 g h => .b1 (t.b1 f h1 h2) g.1 g.2 h1 h2 h) (.d _) (.d _) (ckG sc _) (a x)))
  (vAttr (P := fun g => VB1 c sc f A (.Call g es [] p)) g fun o n q => vNil (P := fun es => VB1 c sc f A (.Call (.Attribute o n q) es [] p)) es (.four .low (ckSup o n) (.t _) (.d _) (a o))))

noncomputable def ckB2 (t : TabOk c T) (sc : Scope) (f : B2) (a : ∀ e, Chk (A e)) (b : ∀ e, Chk (B e)) (e : Expr) : Chk (VB2 c sc f A B e) := vCall e fun g es ks p => vNil (P := fun ks => VB2 c sc f A B (.Call g es ks p)) ks (.or
  (vName (P := fun g => VB2 c sc f A B (.Call g es [] p)) g fun id q => vTwo (P := fun es => VB2 c sc f A B (.Call (.Name id q) es [] p)) es fun x y =>
    .sub (Q := fun id => VB2 c sc f A B (.Call (.Name id q) [x, y] [] p)) "min" id (.four (fun h1 g h h' => .min h1 t.min g.1 g.2 h h') (.d _) (ckG sc _) (a x) (b y)))
  (vAttr (P := fun g => VB2 c sc f A B (.Call g es [] p)) g fun o n q => vOne (P := fun es => VB2 c sc f A B (.Call (.Attribute o n q) es [] p)) es fun x => .four (fun s p h h' => .meth s p.1 p.2 h h') (ckSup o n) (.both And.intro (.t _) (.d _)) (a o) (b x)))

noncomputable def ckLr (t : TabOk c T) (sc : Scope) (x : ∀ e, Chk (X e)) (y : ∀ e, Chk (Y e)) (z : ∀ e, Chk (Z e)) (e : Expr) : Chk (VLrange c sc X Y Z e) := vCall e fun g es ks p => vNil (P := fun ks => VLrange c sc X Y Z (.Call g es ks p)) ks (
  vName (P := fun g => VLrange c sc X Y Z (.Call g es [] p)) g fun i q => vOne (P := fun es => VLrange c sc X Y Z (.Call (.Name i q) es [] p)) es fun r =>
  .sub (Q := fun i => VLrange c sc X Y Z (.Call (.Name i q) [r] [] p)) "list" i (
  vCall (P := fun r => VLrange c sc X Y Z (.Call _ [r] [] p)) r fun g' es' ks' p' => vNil (P := fun ks' => VLrange c sc X Y Z (.Call _ [.Call g' es' ks' p'] [] p)) ks' (
  vName (P := fun g' => VLrange c sc X Y Z (.Call _ [.Call g' es' [] p'] [] p)) g' fun i' q' => vThree (P := fun es' => VLrange c sc X Y Z (.Call _ [.Call (.Name i' q') es' [] p'] [] p)) es' fun u v w =>
  .sub (Q := fun i' => VLrange c sc X Y Z (.Call _ [.Call (.Name i' q') _ [] p'] [] p)) "range" i' (
  .four (fun h1 g h k => .lrange t.list g.1.1 g.1.2 (t.b1 .range (by decide) (by decide)) g.2.1 g.2.2 h1 h k) (x u) (.both And.intro (ckG sc "list") (ckG sc "range")) (y v) (z w)))))

noncomputable def ckGn (t : TabOk c T) (sc : Scope) (pb : PE) (g : Gn) (a : ∀ e, Chk (A e)) (b : ∀ e, Chk (B e)) (e : Expr) : Chk (VG c sc A B pb g e) := by
  cases g with
  | plain => exact .both .plain (a e) (ckKn pb)
  | zip => exact vCall e fun f es ks p => vName (P := fun f => VG c sc A B pb .zip (.Call f es ks p)) f fun i q => vTwo (P := fun es => VG c sc A B pb .zip (.Call (.Name i q) es ks p)) es fun x y => vNil (P := fun ks => VG c sc A B pb .zip (.Call (.Name i q) [x, y] ks p)) ks (.sub (Q := fun i => VG c sc A B pb .zip (.Call (.Name i q) [x, y] [] p)) "zip" i (.three (fun g h k => .zip t.zip g.1 g.2 h k) (ckG sc "zip") (a x) (b y)))
  | enum => exact vCall e fun f es ks p => vName (P := fun f => VG c sc A B pb .enum (.Call f es ks p)) f fun i q => vOne (P := fun es => VG c sc A B pb .enum (.Call (.Name i q) es ks p)) es fun x => vNil (P := fun ks => VG c sc A B pb .enum (.Call (.Name i q) [x] ks p)) ks (.sub (Q := fun i => VG c sc A B pb .enum (.Call (.Name i q) [x] [] p)) "enumerate" i (.three (fun g h k => .enum t.enum g.1 g.2 h k) (ckG sc "enumerate") (a x) (ckKn pb)))
  | items => exact .no
noncomputable def ckIf (q : Bool) (a : ∀ e, Chk (A e)) (l : List Expr) : Chk (VIf A l q) := by
  cases q with
  | false => exact vNil (P := fun l => VIf A l false) l (.yes .none)
  | true => exact vOne (P := fun l => VIf A l true) l fun x => .map .some (a x)
noncomputable def ckComp {G : Expr → Prop} {I : Scope → List Expr → Prop} {X : Scope → Expr → Prop} (N : List Str) (sc : Scope) (t : Tgt) (g : Gn) (cl : List Nat) (q : Bool) (a : ∀ e, Chk (G e)) (i : ∀ s l, Chk (I s l)) (x : ∀ s e, Chk (X s e)) (e : Expr) : Chk (VComp N sc t g cl q G I X e) :=
  vComp e fun el gs s p => vOne (P := fun gs => VComp N sc t g cl q G I X (.ListComp el gs s p)) gs fun w => by
    cases w with
    | mk tg it is as => exact .sub (Q := fun as => VComp N sc t g cl q G I X (.ListComp el [⟨tg, it, is, as⟩] s p)) 0 as (.four (fun h1 h2 h3 h4 => .comp h1 h2.1 h2.2 h3 h4.1 h4.2) (.d _) (.both And.intro (ckT N s t tg) (chC N sc s cl)) (a it) (.both And.intro (i s is) (x s el)))
noncomputable def vGen {P : Comprehension → Prop} (w : Comprehension) (k : ∀ t i, Chk (P ⟨t, i, [], 0⟩)) : Chk (P w) := by
  cases w with
  | mk t i is as => exact vNil (P := fun is => P ⟨t, i, is, as⟩) is (.sub (Q := fun as => P ⟨t, i, [], as⟩) 0 as (k t i))
noncomputable def ckComp2 {G : Expr → Prop} {B X : Scope → Expr → Prop} (N : List Str) (sc : Scope) (t u : Tgt) (cl : List Nat) (a : ∀ e, Chk (G e)) (b : ∀ s e, Chk (B s e)) (x : ∀ s e, Chk (X s e)) (e : Expr) : Chk (VComp2 N sc t u cl G B X e) :=
  vComp e fun el gs s p => vTwo (P := fun gs => VComp2 N sc t u cl G B X (.ListComp el gs s p)) gs fun v w => vGen (P := fun v => VComp2 N sc t u cl G B X (.ListComp el [v, w] s p)) v fun t1 i1 => vGen (P := fun w => VComp2 N sc t u cl G B X (.ListComp el [⟨t1, i1, [], 0⟩, w] s p)) w fun t2 i2 =>
    .four (fun h1 h2 h3 h4 => .comp2 h1.1 h2.1 h2.2 h1.2 h3 h4.1 h4.2) (.both And.intro (.t _) (chC N sc s cl)) (.both And.intro (ckT N s t t1) (ckT N s u t2)) (a i1) (.both And.intro (b s i2) (x s el))
noncomputable def ckNilE (es : List Expr) : Chk (VNil es) := vNil es (.yes .nil)
noncomputable def ckConsE (a : ∀ e, Chk (A e)) (l : ∀ e, Chk (L e)) (es : List Expr) : Chk (VCons A L es) := vCons es fun x r => .both .cons (a x) (l r)

noncomputable def chE (t : TabOk c T) (N : List Str) (p : PE) : ∀ sc e, Chk (ME c T.kw N sc e p) :=
  @PE.rec (fun p => ∀ sc e, Chk (ME c T.kw N sc e p)) (fun ps => ∀ sc es, Chk (MEs c T.kw N sc es ps))
    (fun v _ => ckK v) (fun x sc => ckVar N sc x) (fun _ v sc => ckGlob t sc v)
    (fun op _ _ a b sc => ckBin op (a sc) (b sc)) (fun _ _ _ a b sc => ckRep (a sc) (b sc)) (fun op _ _ a b sc => ckCmp op (a sc) (b sc))
    (fun neg _ a sc => ckIsNone neg (a sc)) (fun neg ls _ a sc => ckTypeIs t sc neg ls (a sc)) (fun _ l sc => ckAnd (l sc)) (fun _ l sc => ckOr (l sc)) (fun _ a sc => ckNot (a sc)) (fun _ a sc => ckNeg (a sc))
    (fun _ _ _ x a b sc => ckIte (x sc) (a sc) (b sc)) (fun _ _ a b sc => ckIdx (a sc) (b sc)) (fun _ pl ph a l h sc => ckSl (a sc) (ckO pl (l sc)) (ckO ph (h sc)))
    (fun _ l sc => ckTup (l sc)) (fun _ _ l sc => ckLst (l sc))
    (fun _ _ tg g _ pb cl q _ x a b y sc => ckComp N sc tg g cl q (ckGn t sc pb g (a sc) (b sc)) (fun s => ckIf q (y s)) x)
    (fun _ t _ u _ cl x a b sc => ckComp2 N sc t u cl (a sc) b x)
    (fun f _ l sc => ckFn t sc f (l sc)) (fun f _ a sc => ckB1 t sc f (a sc)) (fun f _ _ a b sc => ckB2 t sc f (a sc) (b sc)) (fun _ _ _ _ x y z sc => ckLr t sc (x sc) (y sc) (z sc)) (fun _ a sc => ckHdrs (a sc))
    (fun _ => ckNilE) (fun _ _ a l sc => ckConsE (a sc) (l sc)) p
end
end Mine

-- C2
set_option autoImplicit false
set_option maxRecDepth 100000
set_option genInjectivity false
set_option genSizeOf false
namespace Mine
open PySem PySem.W PyProof.Rows

noncomputable def SwP (v : Expr) : Prop := ∀ (i1 i2 : Str) (p1 p2 tp : Pos) (k : Nat) (env : Env),
    swappedStores [.Tuple [.Name i1 p1, .Name i2 p2] k tp] v env = pure none ∨ swappedStores [.Tuple [.Name i1 p1, .Name i2 p2] k tp] v env = pure (some [i1, i2])

theorem swTup {vs : List Expr} {k2 : Nat} {p : Pos} (h : (vs.all (foldedForSure 8) || !vs.all (constantsAlone 8)) = true) : SwP (.Tuple vs k2 p) := by
  intro i1 i2 p1 p2 tp k env
  unfold swappedStores
  dsimp only
  split
  · exact .inl rfl
  · split
    · exact .inl rfl
    · generalize hb1 : (env.kindOf i1 == some .local && p1.line == ((([Expr.Name i1 p1, Expr.Name i2 p2] : List Expr).head?.map (·.pos.line)).getD 0)) = b1
      generalize hb2 : (env.kindOf i2 == some .local && p2.line == ((([Expr.Name i1 p1, Expr.Name i2 p2] : List Expr).head?.map (·.pos.line)).getD 0)) = b2
      simp only [List.filterMap_cons, List.filterMap_nil, hb1, hb2]
      cases b1 <;> cases b2
      · exact .inl rfl
      · exact .inl rfl
      · exact .inl rfl
      · simp only [if_true]
        split
        · exact .inl rfl
        · split
          · exact .inl rfl
          · rename_i h2
            rw [Bool.not_eq_true] at h2
            rw [h2, Bool.false_or, Bool.not_eq_true'] at h
            rw [if_neg (by rw [h]; decide)]
            exact .inr rfl
noncomputable def ckSw (v : Expr) : Chk (SwP v) := by
  cases v with
  | Tuple vs k p => exact .map swTup (.t _)
  | _ => exact .yes fun _ _ _ _ _ _ _ => .inl rfl

section
variable {P : Stmt → Prop}
noncomputable def wAssign (e : Stmt) (k : ∀ l v p, Chk (P (.Assign l v p))) : Chk (P e) := by
  cases e with
  | Assign l v p => exact k l v p
  | _ => exact .no
noncomputable def wAug (e : Stmt) (k : ∀ x o v p, Chk (P (.AugAssign x o v p))) : Chk (P e) := by
  cases e with
  | AugAssign x o v p => exact k x o v p
  | _ => exact .no
noncomputable def wRet (e : Stmt) (k : ∀ v p, Chk (P (.Return (some v) p))) : Chk (P e) := by
  cases e with
  | Return v p =>
    cases v with
    | none => exact .no
    | some v => exact k v p
  | _ => exact .no
noncomputable def wExpr (e : Stmt) (k : ∀ v p, Chk (P (.Expr v p))) : Chk (P e) := by
  cases e with
  | Expr v p => exact k v p
  | _ => exact .no
noncomputable def wIf (e : Stmt) (k : ∀ x y z p, Chk (P (.If x y z p))) : Chk (P e) := by
  cases e with
  | If x y z p => exact k x y z p
  | _ => exact .no
noncomputable def wFor (e : Stmt) (k : ∀ t i b o p, Chk (P (.For t i b o p))) : Chk (P e) := by
  cases e with
  | For t i b o p => exact k t i b o p
  | _ => exact .no
noncomputable def wWhile (e : Stmt) (k : ∀ t b o p, Chk (P (.While t b o p))) : Chk (P e) := by
  cases e with
  | While t b o p => exact k t b o p
  | _ => exact .no
end

section
variable {c : Cx} {T : Tab} {N : List Str}
noncomputable def ckAssign (t : TabOk c T) (sc : Scope) (x : Nat) (a : PE) (s : Stmt) : Chk (SAssign c T.kw N sc x a s) := wAssign s fun l v p => vOne (P := fun l => SAssign c T.kw N sc x a (.Assign l v p)) l fun z => vName (P := fun z => SAssign c T.kw N sc x a (.Assign [z] v p)) z fun i q =>
  .three (fun n q h => .assign n.n n.l n.h q h) (ckNm N x sc i) (.d _) (chE t N a sc v)
noncomputable def ckAssign2 (t : TabOk c T) (sc : Scope) (x y : Nat) (a : PE) (s : Stmt) : Chk (SAssign2 c T.kw N sc x y a s) := wAssign s fun l v p => vTwo (P := fun l => SAssign2 c T.kw N sc x y a (.Assign l v p)) l fun z u => vName (P := fun z => SAssign2 c T.kw N sc x y a (.Assign [z, u] v p)) z fun i q => vName (P := fun u => SAssign2 c T.kw N sc x y a (.Assign [.Name i q, u] v p)) u fun j r =>
  .three (fun n m h => .assign2 n.n n.l n.h m.n m.l m.h h) (ckNm N x sc i) (ckNm N y sc j) (chE t N a sc v)
noncomputable def ckStup (t : TabOk c T) (sc : Scope) (x y : Nat) (a : PE) (s : Stmt) : Chk (STup c T.kw N sc x y a s) := wAssign s fun l v p => vOne (P := fun l => STup c T.kw N sc x y a (.Assign l v p)) l fun w => vTup (P := fun w => STup c T.kw N sc x y a (.Assign [w] v p)) w fun l k tp => vTwo (P := fun l => STup c T.kw N sc x y a (.Assign [.Tuple l k tp] v p)) l fun z u =>
  vName (P := fun z => STup c T.kw N sc x y a (.Assign [.Tuple [z, u] k tp] v p)) z fun i q => vName (P := fun u => STup c T.kw N sc x y a (.Assign [.Tuple [.Name i q, u] k tp] v p)) u fun j r =>
  .four (fun n m h g => .tup n.n n.l n.h m.n m.l m.h h.1 h.2 fun env _ => g i j q r tp k env) (ckNm N x sc i) (ckNm N y sc j) (.both And.intro (.d _) (chE t N a sc v)) (ckSw v)
noncomputable def ckSsub (t : TabOk c T) (sc : Scope) (o i a : PE) (s : Stmt) : Chk (SSub c T.kw N sc o i a s) := wAssign s fun l v p => vOne (P := fun l => SSub c T.kw N sc o i a (.Assign l v p)) l fun z => vSub (P := fun z => SSub c T.kw N sc o i a (.Assign [z] v p)) z fun x y q =>
  .three .sub (chE t N o sc x) (chE t N i sc y) (chE t N a sc v)
noncomputable def ckAug (t : TabOk c T) (sc : Scope) (x : Nat) (op : BOp) (a : PE) (s : Stmt) : Chk (SAug c T.kw N sc x op a s) := wAug s fun z o v p => vName (P := fun z => SAug c T.kw N sc x op a (.AugAssign z o v p)) z fun i q =>
  .sub (Q := fun o => SAug c T.kw N sc x op a (.AugAssign (.Name i q) o v p)) (bopOf op) o (.three (fun n h g => .aug n.n n.l n.h h g) (ckNm N x sc i) (.f _) (chE t N a sc v))
noncomputable def ckSret (t : TabOk c T) (sc : Scope) (a : PE) (s : Stmt) : Chk (SRet c T.kw N sc a s) := wRet s fun v p => .map .ret (chE t N a sc v)
noncomputable def ckSex (t : TabOk c T) (sc : Scope) (a : PE) (s : Stmt) : Chk (SExpr c T.kw N sc a s) := wExpr s fun v p => .map .expr (chE t N a sc v)
noncomputable def ckApp (t : TabOk c T) (sc : Scope) (o a : PE) (s : Stmt) : Chk (SAppend c T.kw N sc o a s) := wExpr s fun v p => vCall (P := fun v => SAppend c T.kw N sc o a (.Expr v p)) v fun f es ks q => vNil (P := fun ks => SAppend c T.kw N sc o a (.Expr (.Call f es ks q) p)) ks (
  vAttr (P := fun f => SAppend c T.kw N sc o a (.Expr (.Call f es [] q) p)) f fun u n r => vOne (P := fun es => SAppend c T.kw N sc o a (.Expr (.Call (.Attribute u n r) es [] q) p)) es fun x =>
  .four (fun s h g k => .append s h.1 h.2 g k) (ckSup u n) (.both And.intro (.t _) (.d _)) (chE t N o sc u) (chE t N a sc x))
noncomputable def ckSif {A B : List Stmt → Prop} (t : TabOk c T) (sc : Scope) (x : PE) (a : ∀ l, Chk (A l)) (b : ∀ l, Chk (B l)) (s : Stmt) : Chk (SIfs c T.kw N sc x A B s) := wIf s fun u v w p => .three .ifs (chE t N x sc u) (a v) (b w)
noncomputable def ckLoop {B : List Stmt → Prop} (t : TabOk c T) (sc : Scope) (tg : Tgt) (g : Gn) (pa pb : PE) (b : ∀ l, Chk (B l)) (s : Stmt) : Chk (SLoop c T.kw N sc tg pa pb B g s) := wFor s fun z i l o p => vNil (P := fun o => SLoop c T.kw N sc tg pa pb B g (.For z i l o p)) o (by
  cases g with
  | plain => exact .four (fun h k e f => .loop h (VG.plain k e) f) (ckT N sc tg z) (chE t N pa sc i) (ckKn pb) (b l)
  | _ => exact .no)
noncomputable def ckWhile {B : List Stmt → Prop} (t : TabOk c T) (sc : Scope) (x : PE) (b : ∀ l, Chk (B l)) (s : Stmt) : Chk (SWhile c T.kw N sc x B s) := wWhile s fun u l o p => vNil (P := fun o => SWhile c T.kw N sc x B (.While u l o p)) o (.both .while (chE t N x sc u) (b l))

noncomputable def chSs (t : TabOk c T) (N : List Str) (sc : Scope) (p : PSs) : ∀ xs, Chk (MSs c T.kw N sc xs p) :=
  @PSs.rec (fun p => ∀ x, Chk (MS c T.kw N sc x p)) (fun ps => ∀ xs, Chk (MSs c T.kw N sc xs ps))
    (fun x a => ckAssign t sc x a) (fun x y a => ckAssign2 t sc x y a) (fun x y a => ckStup t sc x y a) (fun o i a => ckSsub t sc o i a) (fun x op a => ckAug t sc x op a) (fun a => ckSret t sc a) (fun a => ckSex t sc a) (fun o a => ckApp t sc o a)
    (fun x _ _ a b => ckSif t sc x a b) (fun tg g pa pb _ b => ckLoop t sc tg g pa pb b) (fun _ x _ b => ckWhile t sc x b) (fun _ => .yes trivial)
    (fun xs => vNil (P := SNil) xs (.yes .nil)) (fun p ps a b xs => vCons (P := fun xs => MSs c T.kw N sc xs (.cons p ps)) xs fun x r => .both SCons.cons (a x) (b r)) p
end
structure CkSs (T : Tab) (N : List Str) (p : PSs) (sc : Scope) (xs : List Stmt) : Prop where
  h : ∀ c, TabOk c T → MSs c T.kw N sc xs p
theorem ckSs {T : Tab} {N : List Str} {p : PSs} {sc : Scope} {xs : List Stmt} (h : ∀ c (t : TabOk c T), (chSs t N sc p xs).b = true) : CkSs T N p sc xs := ⟨fun c t => (chSs t N sc p xs).ok (h c t)⟩
end Mine

-- F1
set_option autoImplicit false
set_option maxRecDepth 100000
namespace Mine
open PySem PySem.W PyProof.Rows

mutual
noncomputable def noCell : V → Bool
  | .cell _ => false
  | .tup l => noCells l
  | .lst l => noCells l
  | .hdr v => noCell v
  | _ => true
noncomputable def noCells : List V → Bool
  | [] => true
  | v :: r => noCell v && noCells r
end

section
variable {c : Cx} {h : Heap} {φ : List Addr}
mutual
theorem VRel.alone : ∀ {v : V} {x : Value}, noCell v = true → VRel c h φ v x → VRel c h [] v x
  | .none, _, _, r => r
  | .bool _, _, _, r => r
  | .int _, _, _, r => r
  | .str _, _, _, r => r
  | .tup l, x, n, r => by
    have n : noCells l = true := n
    obtain ⟨a, xs, k, e, h1, h2, h3⟩ := r
    exact ⟨a, xs, k, e, h1, h2, VRels.alone n h3⟩
  | .lst l, x, n, r => by
    have n : noCells l = true := n
    obtain ⟨a, xs, k, e, h1, h2, h3, h4⟩ := r
    exact ⟨a, xs, k, e, h1, by simp, h3, VRels.alone n h4⟩
  | .rng _, _, _, r => r
  | .cell _, _, n, _ => (Bool.false_ne_true n).elim
  | .hdr v, x, n, r => by
    have n : noCell v = true := n
    obtain ⟨a, dx, hh, tk, k, y, e, h1, h2, h3⟩ := r
    exact ⟨a, dx, hh, tk, k, y, e, h1, h2, VRel.alone n h3⟩
  | .pat _, _, _, r => r
theorem VRels.alone : ∀ {l : List V} {xs : List Value}, noCells l = true → VRels c h φ l xs → VRels c h [] l xs
  | [], _, _, r => r
  | v :: l, xs, n, r => by
    have n := Bool.and_eq_true_iff.mp (show (noCell v && noCells l) = true from n)
    obtain ⟨y, t, e, h1, h2⟩ := r
    exact ⟨y, t, e, VRel.alone n.1 h1, VRels.alone n.2 h2⟩
end
end

noncomputable def fzA : V → Option V
  | .none => some .none
  | .bool b => some (.bool b)
  | .int i => some (.int i)
  | .str s => some (.str s)
  | _ => none
noncomputable def fzL (H : Hp) (f : V → Option V) (k : Nat) : Option V := (H[k]?).bind fun l => (allSome (l.map f)).map .lst
noncomputable def fz : Nat → Hp → V → Option V
  | 0, _, v => fzA v
  | n + 1, H, v => (celV v).elim (fzA v) (fzL H (fz n H))

section
variable {c : Cx} {h : Heap} {φ ψ : List Addr} {H : Hp}
theorem fzA_ok {v r : V} {x : Value} (e : fzA v = some r) (q : VRel c h ψ v x) : VRel c h φ r x := by
  cases v with
  | none => rw [← someq e]; exact q
  | bool => rw [← someq e]; exact q
  | int => rw [← someq e]; exact q
  | str => rw [← someq e]; exact q
  | _ => exact nosome e
theorem fzs_ok {f : V → Option V} (ih : ∀ {v r : V} {x : Value}, f v = some r → VRel c h ψ v x → VRel c h φ r x) (l : List V) : ∀ {rs : List V} {xs : List Value}, allSome (l.map f) = some rs → VRels c h ψ l xs → VRels c h φ rs xs := by
  induction l with
  | nil => intro rs xs e q; rw [← someq e]; exact q
  | cons v l ih2 =>
    intro rs xs e q
    obtain ⟨y, t, rfl, g1, g2⟩ := q
    obtain ⟨r, rs', h1, h2, rfl⟩ := allSome_cons e
    exact ⟨y, t, rfl, ih h1 g1, ih2 h2 g2⟩
theorem fz_ok (w : Wd c ψ H h) (hd : ∀ a ∈ ψ, a ∉ φ) (n : Nat) : ∀ {v r : V} {x : Value}, fz n H v = some r → VRel c h ψ v x → VRel c h φ r x := by
  induction n with
  | zero => exact fun e q => fzA_ok e q
  | succ n ih =>
    intro v r x e q
    by_cases hc : ∃ k, v = .cell k
    · obtain ⟨k, rfl⟩ := hc
      have e : fzL H (fz n H) k = some r := e
      obtain ⟨l, hl, e⟩ := bindsome e
      obtain ⟨rs, hrs, rfl⟩ := Option.map_eq_some_iff.mp e
      obtain ⟨a, rfl, ha⟩ := q
      obtain ⟨b, xs, m, h1, h2, h3⟩ := w.cells k l hl
      rw [ha] at h1; cases h1
      have hm := List.mem_of_getElem? ha
      exact ⟨a, xs, m, rfl, h2, hd a hm, fun q => (w.ghs a q).2.1 hm, fzs_ok ih l hrs h3⟩
    · have e2 : celV v = none := by
        cases v with
        | cell k => exact absurd ⟨k, rfl⟩ hc
        | _ => rfl
      have e : (celV v).elim (fzA v) (fzL H (fz n H)) = some r := e
      rw [e2] at e
      exact fzA_ok e q
end

structure FD where
  nm : List Str
  p : PSs
  n : Nat
  d : Nat := 0
  m : Bool := false
  loc : Bool := false

noncomputable def locRun (Φ : Fns) (p : PSs) (ρ : En) (H : Hp) : Option (V × Hp) :=
  ob (runF Φ p ρ []) fun r H1 => (fz 2 H1 r).map (·, H)
noncomputable def runD (Φ : Fns) (d : FD) (args : List V) (H : Hp) : Option (V × Hp) :=
  if args.length = d.n ∧ (d.m = true → isH args = true) then
    (if d.loc then (if noCells args then locRun Φ d.p (slots0 d.nm.length (args ++ List.replicate d.d .none)) H else none) else runF Φ d.p (slots0 d.nm.length (args ++ List.replicate d.d .none)) H)
  else none

section
variable {c : Cx} {prog : Program} {w : World} {kw : Nat → List Str} {Φ : Fns} {k : Nat}

theorem AOk.mono {A : Around} {i j : Nat} (a : AOk A j) (h : i ≤ j) : AOk A i := ⟨a.hh, by have := a.dep; omega, by have := a.uni; omega⟩

theorem VRels.nones {h : Heap} {φ : List Addr} : ∀ n : Nat, VRels c h φ (List.replicate n .none) (List.replicate n .none)
  | 0 => rfl
  | n + 1 => ⟨_, _, rfl, rfl, VRels.nones n⟩

structure FDOk (c : Cx) (T : Tab) (f : Nat) (d : FD) (a : Addr) (fd : FuncData) (body : List Stmt) (ps : List Str) : Prop where
  at_ : FnAt c d.nm (c.fv f) a fd body ps
  ms : CkSs T d.nm d.p fd.scope body
  np : ps.length = d.n + d.d
  bind : ∀ (s : Shared) (vs ks : List Value), c.K.In s.heap → (vs ++ ks).length = d.n → ks.length = (T.kw f).length → BindsTo s fd ⟨vs, (T.kw f).zip ks⟩ (ps.zip ((vs ++ ks) ++ List.replicate d.d .none))

theorem fnOk_of {T : Tab} {f : Nat} {d : FD} {a : Addr} {fd : FuncData} {body : List Stmt} {ps : List Str} (t : TabOk c T) (x : FDOk c T f d a fd body ps) (G : GF c) (S : SearchOk c prog w) (P : PhiOk c prog w T.kw Φ k) :
    FnOk c prog w (k + 1) f (T.kw f) (runD Φ d) := by
  intro g A E s φ H L m args vs ks r H' Q ao st rs hk he post
  have AE : ∀ p, EvOk c prog w T.kw d.nm Φ k p := all_ev G S P
  have AT : ∀ p, TrOk c prog w T.kw d.nm Φ k p := all_tr G S P
  have sts : StsOk c prog w T.kw d.nm Φ k d.p := all_sts G AE AT d.p
  obtain ⟨hn, he⟩ := ifsome he
  have hlen : (vs ++ ks).length = d.n := by rw [rs.length]; exact hn.1
  have hb := x.bind s vs ks (G.k.keeps st.w.stays) hlen hk
  have hl2 : (args ++ List.replicate d.d V.none).length = ps.length := by rw [x.np, List.length_append, List.length_replicate, hn.1]
  rcases itesome he with ⟨_, he⟩ | ⟨_, he⟩
  · obtain ⟨hnc, he⟩ := ifsome he
    refine ob_elim he fun r1 H1 e1 he => ?_
    obtain ⟨r', hr', rfl, rfl⟩ := om_inv he
    have st0 : St (c.wg g) [] [] L m s.heap := ⟨⟨fun a ha => ⟨(st.w.ghs a ha).1, by simp, (st.w.ghs a ha).2.2⟩, st.w.stays, by simp, .nil, rfl, by simp⟩, st.l⟩
    refine fn_body (args := ⟨vs, (T.kw f).zip ks⟩) x.at_ G sts (x.ms.h _ t) ao st0 hb ((rs.alone hnc).append (VRels.nones _)) hl2 e1 fun val h' tk φ' u st' rv => ?_
    have kp : KeepL L s.heap h' := fun a o e n => u.keep a o e (by simp) n
    have hdis : ∀ a ∈ φ', a ∉ φ := fun a ha hm => by
      obtain ⟨ψ, e3, h3⟩ := u.ext
      rw [List.nil_append] at e3; subst e3
      obtain ⟨ys, q, e⟩ := st.w.isL a hm
      rw [h3 a ha] at e; cases e
    exact post val h' tk φ (.of_keepL kp) (st.keepL kp st'.l.ns) (fz_ok st'.w hdis 2 hr' rv)
  · exact fn_body (args := ⟨vs, (T.kw f).zip ks⟩) x.at_ G sts (x.ms.h _ t) ao st hb (rs.append (VRels.nones _)) hl2 he post

structure ClsOk (c : Cx) (T : Tab) (nm : List Str) (p1 p2 : PSs) (a : Addr) (fd : FuncData) (b1 b2 : List Stmt) (sid hid : Str) (q1 q2 q3 q4 : Pos) : Prop where
  at_ : FnAt c nm (.ref a) a fd (b1 ++ .Assign [.Attribute (.Name sid q1) hkey q2] (.Name hid q3) q4 :: b2) [sid, hid]
  gc : GC c a
  m1 : CkSs T nm p1 fd.scope b1
  m2 : CkSs T nm p2 fd.scope b2
  pv : ∀ x, c.pv (x + 2) = .ref x
  sl : fd.scope.names.lookup sid = some .local
  hl : fd.scope.names.lookup hid = some .local
  sd : (sid == ("__debug__" : Str)) = false
  hd : (hid == ("__debug__" : Str)) = false
  bind0 : ∀ (s : Shared) (x : Value), c.K.In s.heap → BindsTo s fd ⟨[x], []⟩ [(sid, x), (hid, .none)]
  bind1 : ∀ (s : Shared) (x y : Value), c.K.In s.heap → BindsTo s fd ⟨[x, y], []⟩ [(sid, x), (hid, y)]
  sf : ∀ Φ, SelfFree Φ nm.length p1

noncomputable def initN (Φ : Fns) (n0 : Nat) (p1 p2 : PSs) (args : List V) (H : Hp) : Option (V × Hp) := @ite _ (args = []) (Classical.propDecidable _) (initF Φ n0 p1 p2 .none H) none
theorem cls0_ok {T : Tab} {f : Nat} {nm : List Str} {p1 p2 : PSs} {a : Addr} {fd : FuncData} {b1 b2 : List Stmt} {sid hid : Str} {q1 q2 q3 q4 : Pos} (hf : c.fv f = .ref c.C) (hkw : T.kw f = []) (t : TabOk c T) (x : ClsOk c T nm p1 p2 a fd b1 b2 sid hid q1 q2 q3 q4) (G : GF c) (S : SearchOk c prog w) (P : PhiOk c prog w T.kw Φ k) :
    FnOk c prog w (k + 2) f (T.kw f) (initN Φ nm.length p1 p2) := by
  intro g A E s φ H L m args vs ks r H' Q ao st rs hk he post
  have AE : ∀ p, EvOk c prog w T.kw nm Φ k p := all_ev G S P
  have AT : ∀ p, TrOk c prog w T.kw nm Φ k p := all_tr G S P
  have sts : ∀ p, StsOk c prog w T.kw nm Φ k p := all_sts G AE AT
  obtain ⟨e1, e2⟩ := @ifsome _ _ (Classical.propDecidable _) _ _ he
  subst e1
  · have e0 : vs ++ ks = [] := rs
    obtain ⟨rfl, rfl⟩ := List.append_eq_nil_iff.mp e0
    rw [hkw, hf]
    exact class_call (v0 := .none) (hv := .none) x.at_ G x.gc (x.m1.h _ t) (x.m2.h _ t) sts x.pv (x.sf _) x.sl x.hl x.sd x.hd ao st rfl (fun y h' kp => x.bind0 _ _ (G.k.keeps kp)) e2 post

structure AddOk (c : Cx) (T : Tab) (nm : List Str) (p1 p2 : PSs) (a : Addr) (fd : FuncData) (b1 b2 body : List Stmt) (pid : Str) (ps : List Str) : Prop where
  at_ : FnAt c nm (c.fv 6) a fd body ps
  lp : AddAt fd b1 b2 pid body
  p4 : ps.length = 4
  p3 : ps[3]? = some pid
  m1 : CkSs T nm p1 fd.scope b1
  m2 : CkSs T nm p2 fd.scope b2
  pv : ∀ x, c.pv (x + 2) = .ref x
  bind : ∀ (s : Shared) (vs : List Value), c.K.In s.heap → vs.length = 3 → ∀ (M : Model) (A : Around) (E : Value → Shared → Prop) (Q : List (Str × Value) → Shared → Prop), Q (ps.zip (vs ++ [.ref s.heap.objs.size])) { s with heap := s.heap.push (dictOf [] 0) } → wpAny M A (bindArgs fd ⟨vs, []⟩) Q E s

theorem addfn_ok {T : Tab} {nm : List Str} {p1 p2 : PSs} {a : Addr} {fd : FuncData} {b1 b2 body : List Stmt} {pid : Str} {ps : List Str} (hkw : T.kw 6 = []) (t : TabOk c T) (x : AddOk c T nm p1 p2 a fd b1 b2 body pid ps) (G : GF c) (S : SearchOk c prog w) (P : PhiOk c prog w T.kw Φ k) :
    FnOk c prog w (k + 1) 6 (T.kw 6) (addF Φ nm.length p1 p2) := by
  intro g A E s φ H L m args vs ks r H' Q ao st rs hk he post
  have sts : ∀ p, StsOk c prog w T.kw nm Φ k p := all_sts G (all_ev G S P) (all_tr G S P)
  have hk0 : ks = [] := List.eq_nil_of_length_eq_zero (by rw [hk, hkw]; rfl)
  subst hk0
  rw [List.append_nil] at rs
  rw [hkw]
  exact add_call x.at_ G x.lp x.p4 x.p3 (x.m1.h _ t) (x.m2.h _ t) sts x.pv ao st rs (x.bind s vs (G.k.keeps st.w.stays) (by rw [rs.length]; exact (ifsome he).1.1)) he post

noncomputable def floor (D : Nat → Option FD) (n0 : Nat) (p1 p2 : PSs) (na : Nat) (q1 q2 : PSs) (Φ : Fns) (f : Nat) (args : List V) (H : Hp) : Option (V × Hp) :=
  (D f).elim (if f = 12 then initN Φ n0 p1 p2 args H else if f = 6 then addF Φ na q1 q2 args H else none) fun d => runD Φ d args H
noncomputable def tower (D : Nat → Option FD) (n0 : Nat) (p1 p2 : PSs) (na : Nat) (q1 q2 : PSs) : Nat → Fns
  | 0 => fun _ _ _ => none
  | n + 1 => floor D n0 p1 p2 na q1 q2 (tower D n0 p1 p2 na q1 q2 n)

theorem isH_ok {x : V} {l : List V} (h : isH (x :: l) = true) : ∃ v, x = .hdr v := by
  cases x with
  | hdr v => exact ⟨v, rfl⟩
  | _ => exact Bool.noConfusion h

theorem tower_ok {T : Tab} {D : Nat → Option FD} {nm : List Str} {p1 p2 : PSs} {a : Addr} {fd : FuncData} {b1 b2 : List Stmt} {sid hid : Str} {q1 q2 q3 q4 : Pos} {nma : List Str} {pa1 pa2 : PSs} {aa : Addr} {fda : FuncData} {ba1 ba2 bodya : List Stmt} {pid : Str} {psa : List Str} (t : TabOk c T) (G : GF c) (S : SearchOk c prog w)
    (hD : ∀ f d, D f = some d → ∃ a fd body ps, FDOk c T f d a fd body ps) (hm : ∀ f d, f < 10 → D f = some d → d.m = true) (x : ClsOk c T nm p1 p2 a fd b1 b2 sid hid q1 q2 q3 q4) (y : AddOk c T nma pa1 pa2 aa fda ba1 ba2 bodya pid psa) (h12 : c.fv 12 = .ref c.C) (k12 : T.kw 12 = []) (k6 : T.kw 6 = []) :
    ∀ n, PhiOk c prog w T.kw (tower D nm.length p1 p2 nma.length pa1 pa2 n) (2 * n)
  | 0 => ⟨fun f => fun _ _ _ _ he _ => nosome he, fun f _ x vs H r e => nosome e⟩
  | n + 1 => by
    have ih := tower_ok t G S hD hm x y h12 k12 k6 n
    refine ⟨fun f => ?_, fun f hf z vs H r e => ?_⟩
    · intro g A E s φ H L m args vs ks r H' Q ao st rs hk he post
      cases hd : D f with
      | some d =>
        obtain ⟨a, fd, body, ps, y⟩ := hD f d hd
        have he : (D f).elim _ _ = _ := he
        rw [hd] at he
        exact fnOk_of t y G S ih (ao.mono (by omega)) st rs hk he post
      | none =>
        have he : (D f).elim _ _ = _ := he
        rw [hd] at he
        rcases itesome he with ⟨rfl, he⟩ | ⟨_, he⟩
        · exact cls0_ok h12 k12 t x G S ih (ao.mono (by omega)) st rs hk he post
        · obtain ⟨rfl, he⟩ := ifsome he
          exact addfn_ok k6 t y G S ih (ao.mono (by omega)) st rs hk he post
    · cases hd : D f with
      | some d =>
        have e : (D f).elim _ _ = _ := e
        rw [hd] at e
        exact isH_ok ((ifsome (show (if _ then _ else none) = _ from e)).1.2 (hm f d hf hd))
      | none =>
        have e : (D f).elim _ _ = _ := e
        rw [hd] at e
        rcases itesome e with ⟨rfl, _⟩ | ⟨_, e⟩
        · exact absurd hf (by decide)
        · exact isH_ok (ifsome (ifsome e).2).1.2
end
end Mine

-- L1
set_option autoImplicit false
set_option maxRecDepth 100000
namespace Mine
open PySem PySem.W PyProof.Rows

section
variable {c : Cx} {prog : Program} {w : World} {kw : Nat → List Str} {N : List Str} {Φ : Fns} {k : Nat}

theorem wd_top (c : Cx) {h : Heap} (hg : c.gh = []) (k : KeepA c.h₀ h) : Wd c [] [] h :=
  ⟨fun a ha => by rw [hg] at ha; simp at ha, k, by simp, .nil, rfl, by simp⟩

theorem law_call {f : Value} {a : Addr} {fd : FuncData} {body : List Stmt} {ps : List Str} {p : PSs} (fa : FnAt c N f a fd body ps) (G : GF c) (hgh : c.gh = []) (sts : StsOk c prog w kw N Φ k p) (hm : MSs c kw N fd.scope body p)
    {A : Around} {R : Result → Shared → Prop} {s : Shared} {args : Args} {fv : List V} {fx : List Value} {r : V} {H' : Hp}
    (ao : AOk A (k + 1)) (hs : s.heap = c.h₀) (hbind : BindsTo s fd args (ps.zip fx)) (rs : VRels c s.heap [] fv fx) (hlen : fv.length = ps.length)
    (he : runF Φ p (slots0 N.length fv) [] = some (r, H')) (post : ∀ val h' tk φ', KeepA s.heap h' → VRel c h' φ' r val → R (.ok (.ret val)) (sht s h' tk)) : codeAny (model prog w) A (.call (.ref a) args) R s := by
  have hc : (c.wg ([])) = c := by rw [← hgh]
  obtain ⟨o, ho, hd⟩ := fa.ho
  have kp0 : KeepA c.h₀ s.heap := fun _ _ e => by rw [hs]; exact e
  refine codeAny_call_function (by have := ao.dep; omega) (kp0 a o ho) hd fa.co fa.gen fa.body (fa.code.keeps kp0) (hbind _ _ _ _ ?_)
  rw [fa.clo, fa.gl, fa.bi]
  have hkind : ∀ x ∈ ps.zip fx, fd.scope.names.lookup x.1 = some .local ∨ (fd.scope.names.lookup x.1 = some .cell ∧ ((cellsFrom (s.heap.objs.size + 1) fd.scope.names []).lookup x.1).isSome = true) := fun x hx => by
    have hp : x.1 ∈ ps := mem_zip_fst (List.mem_map.mpr ⟨x, hx, rfl⟩)
    rcases fa.pk _ hp with q | q
    · exact .inl q
    · refine .inr ⟨q, ?_⟩
      obtain ⟨b, hb⟩ := lookup_some_mem (cf_mem (n := s.heap.objs.size + 1) |>.mpr (mem_of_lookup q))
      rw [hb]; rfl
  refine wpAny_newFunctionEnv_cells fa.kind hkind fun env henv s' ic => ?_
  have keep : KeepA s.heap s'.heap := ic.toInCall.keep
  have hsc : env.scope = fd.scope := by rw [henv]; rfl
  have above : ∀ {b : Addr}, s.heap.objs.size ≤ b → s.heap.get? b = none := fun {b} ha => get_none_of_le ha
  have hL : s.heap.objs.size ≤ env.locals := ic.toInCall.fresh
  have cellNone : ∀ x b, env.cells.lookup x = some b → s.heap.get? b = none := fun x b e => above (Nat.le_trans hL (Nat.le_of_lt (ic.above x b (mem_of_lookup e))))
  have grow : ∀ {v : V} {x : Value}, VRel c s.heap [] v x → VRel c s'.heap [] v x := fun r => r.mono (fun a o e _ _ _ => keep a o e) (by simp) (by rw [hgh]; simp) ⟨[], by simp, by simp⟩
  have own : Own c fd.scope env := fun x b _ e => by rw [← hs]; exact cellNone x b e
  have st1 : St c [] [] env.locals (bindL env.kindOf (ps.zip fx) fun _ => none) s'.heap := by
    refine ⟨wd_top c hgh fun a o e => keep a o (kp0 a o e), ic.toInCall.ns, ?_, by rw [← hs]; exact hL⟩
    rw [bindL_other fun q => fa.nk (mem_zip_fst q)]
  have er1 : ERel c N s'.heap [] env (bindL env.kindOf (ps.zip fx) fun _ => none) (slots0 N.length fv) := by
    have hhc : ∀ x, env.kindOf x = some .cell ∨ env.kindOf x = some .free → ∃ b, env.cells.lookup x = some b := fun x kd => by
      have hcm : (x, NameKind.cell) ∈ fd.scope.names := by
        rcases kd with kd | kd
        · exact mem_of_lookup (by rw [← hsc]; exact kd)
        · exact absurd rfl (fa.free _ (mem_of_lookup (by rw [← hsc]; exact kd)))
      rw [henv]; exact lookup_some_mem (cf_mem.mpr hcm)
    refine ⟨fa.nd, by rw [hsc]; exact fa.kind, by rw [henv]; rfl, by rw [henv]; rfl, fun i v id e n kd => ?_, fun i v id e n kd => ?_, fun x kd => ?_, fun x y a hx hy => name_of_addr ic.apart (mem_of_lookup hx) (mem_of_lookup hy)⟩
    · obtain ⟨h1, y, h2, h3⟩ := pos_of (g := []) (φ := []) (h := s.heap) (by rw [hc]; exact rs) fa.pre hlen e n
      rw [hc] at h3
      exact ⟨y, bindL_at kd fa.pnd h1 h2, grow h3⟩
    · obtain ⟨h1, y, h2, h3⟩ := pos_of (g := []) (φ := []) (h := s.heap) (by rw [hc]; exact rs) fa.pre hlen e n
      rw [hc] at h3
      obtain ⟨b, hb⟩ := hhc id kd
      have hcc := ic.cell id b hb
      rw [bindC_at (fun q => by rcases kd with kd | kd <;> (rw [kd] at q; cases q)) fa.pnd h1 h2] at hcc
      exact ⟨b, y, hb, hcc, grow h3⟩
    · obtain ⟨b, hb⟩ := hhc x kd
      exact ⟨b, _, hb, ic.cell x b hb⟩
  refine ⟨(G.nl.keeps kp0).keeps keep, codeAny_func ?_⟩
  obtain ⟨h1, t1, hs'⟩ := ic.toInCall.same
  have fin : ∀ {h' : Heap} {tk : Nat} {φ' : List Addr} {val : Value}, UpS fd.scope env s'.heap [] h' φ' → VRel c h' φ' r val → R (.ok (.ret val)) (sht s' h' tk) := fun {h' tk φ' val} u rv => by
    have := post val h' tk φ' (fun b o e => u.keep b o (keep b o e) (by simp) (fun q => by rw [q, above hL] at e; cases e) fun x _ hq => by rw [cellNone x b hq] at e; cases e) rv
    rw [hs']; exact this
  obtain ⟨⟨fl, ρ', H1⟩, e1, he⟩ := Option.map_eq_some_iff.mp he
  obtain ⟨rfl, rfl⟩ := some2 (congrArg some he)
  cases fl with
  | nx => exact sts hm (g := []) hsc own ao.in1 (by rw [hc]; exact st1) (by rw [hc]; exact er1) e1 fun h' tk φ' m' u st' er' => fin u rfl
  | rt v => exact sts hm (g := []) hsc own ao.in1 (by rw [hc]; exact st1) (by rw [hc]; exact er1) e1 fun h' tk φ' m' u st' er' val hv => fin u (by rw [hc] at hv; exact hv)
end
end Mine

-- L2
set_option autoImplicit false
set_option maxRecDepth 100000
namespace Mine
open PySem PySem.W PyProof.Rows

noncomputable def gA (K : Frag) (n : Str) : Addr := match nsIn K mainGlobals n with
  | some (some (.ref a)) => a
  | _ => 0
noncomputable def mA (K : Frag) (C : Addr) (n : Str) : Addr := match findIn K (.ref C) n with
  | some (some (.ref a)) => a
  | _ => 0
noncomputable def isR (o : Option (Option Value)) : Option Addr := match o with
  | some (some (.ref a)) => some a
  | _ => none
theorem isR_ok {o : Option (Option Value)} {a : Addr} (h : isR o = some a) : o = some (some (.ref a)) := by
  unfold isR at h; split at h
  · cases h; rfl
  · cases h
noncomputable def fvOf (K : Frag) (T : Tab) (f : Nat) : Value := match T.fns.find? fun p => decide (p.2 = f) with
  | some p => .ref (gA K p.1)
  | none => match T.meths.find? fun p => decide (p.2 = f) with
    | some p => .ref (mA K (gA K "Headers") p.1)
    | none => .none
noncomputable def cxOf (K : Frag) (T : Tab) (h₀ : Heap) (mg mb : Str → Option Value) : Cx where
  C := gA K "Headers"
  pv := fun k => if k = 0 then .ref (gA K "_name_disallowed_re") else if k = 1 then .ref (gA K "_value_disallowed_re") else .ref (k - 2)
  h₀ := h₀
  mg := mg
  mb := mb
  fv := fvOf K T
  K := K

noncomputable def fdOf (K : Frag) (a : Addr) : FuncData := match K.lookup a with
  | some o => (match o.data with
    | .func fd => fd
    | _ => default)
  | none => default
noncomputable def isFd (K : Frag) (a : Addr) : Bool := match K.lookup a with
  | some o => (match o.data with
    | .func _ => true
    | _ => false)
  | none => false
theorem isFd_ok {K : Frag} {h : Heap} {a : Addr} (X : K.In h) (e : isFd K a = true) : ∃ o, h.get? a = some o ∧ o.data = .func (fdOf K a) := by
  unfold isFd at e
  split at e
  · rename_i o ho
    split at e
    · rename_i fd hd
      refine ⟨o, X _ _ ho, ?_⟩
      unfold fdOf
      rw [ho]; dsimp only; rw [hd]
    · cases e
  · cases e
noncomputable def bodyOf (fd : FuncData) : List Stmt := match fd.body with
  | .stmts b => b
  | _ => []
noncomputable def isStmts (fd : FuncData) : Bool := match fd.body with
  | .stmts _ => true
  | _ => false
theorem isStmts_ok {fd : FuncData} (h : isStmts fd = true) : fd.body = .stmts (bodyOf fd) := by
  unfold isStmts at h
  unfold bodyOf
  split at h
  · rename_i b q; rw [q]
  · cases h

noncomputable def chFn (K : Frag) (nm : List Str) (a : Addr) (ps : List Str) : Bool :=
  isFd K a && codeIn K (fdOf K a).code (fdOf K a).qualname && isStmts (fdOf K a) && (fdOf K a).closure.isEmpty && decide ((fdOf K a).globals = mainGlobals) && decide ((fdOf K a).builtins = builtinsNs) && !(fdOf K a).scope.isCoroutine && !(fdOf K a).scope.isGenerator &&
  decide ((fdOf K a).scope.kind = .function) && ((fdOf K a).scope.names.all fun y => decide (y.2 ≠ .free)) && decide nm.Nodup && ps.isPrefixOf nm && decide ps.Nodup && decide (hkey ∉ ps) && (ps.all fun id => isL (fdOf K a).scope id)

theorem chFn_ok {c : Cx} {nm : List Str} {v : Value} {a : Addr} {ps : List Str} (X : c.K.In c.h₀) (hv : v = .ref a) (h : chFn c.K nm a ps = true) : FnAt c nm v a (fdOf c.K a) (bodyOf (fdOf c.K a)) ps := by
  unfold chFn at h
  simp only [Bool.and_eq_true, decide_eq_true_eq, Bool.not_eq_true', List.all_eq_true, List.isEmpty_iff] at h
  obtain ⟨⟨⟨⟨⟨⟨⟨⟨⟨⟨⟨⟨⟨⟨h1, h2⟩, h3⟩, h4⟩, h5⟩, h6⟩, h7⟩, h8⟩, h9⟩, h10⟩, h11⟩, h12⟩, h13⟩, h14⟩, h15⟩ := h
  refine ⟨hv, isFd_ok X h1, codeRec_of X h2, isStmts_ok h3, h4, h5, h6, h7, h8, h9, h10, h11, fun i id q => ?_, h13, h14, fun id q => isL_ok (h15 id q)⟩
  obtain ⟨t, ht⟩ := List.isPrefixOf_iff_prefix.mp h12
  rw [← ht, List.getElem?_append_left (List.getElem?_eq_some_iff.mp q).1]
  exact q

noncomputable def chTab (K : Frag) (T : Tab) : Bool :=
  (T.fns.all fun p => decide (isR (nsIn K mainGlobals p.1) = some (gA K p.1)) && (match fvOf K T p.2 with | .ref a => decide (a = gA K p.1) | _ => false) && keepIn K (fvOf K T p.2)) &&
  (T.meths.all fun p => plainGet K (gA K "Headers") p.1 && decide (isR (findIn K (.ref (gA K "Headers")) p.1) = some (mA K (gA K "Headers") p.1)) && (match fvOf K T p.2 with | .ref a => decide (a = mA K (gA K "Headers") p.1) | _ => false) && isFn K (.ref (mA K (gA K "Headers") p.1)) && keepIn K (fvOf K T p.2) && !(hkey == p.1) && decide (p.2 < 10)) &&
  (T.nums.all fun p => match nsIn K mainGlobals p.1 with | some (some (.int i _)) => decide (i = p.2) | _ => false) &&
  (T.pats.all fun p => decide (p.2 < 2) && decide (p.1 = if p.2 = 0 then ("_name_disallowed_re" : Str) else ("_value_disallowed_re" : Str)) && decide (isR (nsIn K mainGlobals p.1) = some (gA K p.1))) &&
  ((["len", "int", "chr", "sum", "sorted", "range", "min", "type", "list", "str", "zip", "enumerate"] : List Str).all fun n => match nsIn K mainGlobals n with | some none => true | _ => false)

theorem boot_b1 (f : B1) (h1 : f ≠ .lower) (h2 : f ≠ .upper) : bootBuiltins (b1Name f) = some (f1Of f) := by
  cases f
  · decide +kernel
  · decide +kernel
  · decide +kernel
  · decide +kernel
  · decide +kernel
  · decide +kernel
  · exact absurd rfl h1
  · exact absurd rfl h2
theorem boot_min' : bootBuiltins "min" = some (.builtin "min") := by decide +kernel
theorem boot_type' : bootBuiltins "type" = some (.type "type") := by decide +kernel
theorem boot_list' : bootBuiltins "list" = some (.type "list") := by decide +kernel
theorem boot_str' : bootBuiltins "str" = some (.type "str") := by decide +kernel
theorem boot_zip' : bootBuiltins "zip" = some (.type "zip") := by decide +kernel
theorem boot_enum' : bootBuiltins "enumerate" = some (.type "enumerate") := by decide +kernel

section
variable {K : Frag} {T : Tab} {h₀ : Heap} {mg mb : Str → Option Value}

theorem gl_boot {x : Str} {v : Value} (X : K.In h₀) (G : h₀.Ns mainGlobals mg) (hb : ∀ x : Str, x ≠ "__name__" → mb x = bootBuiltins x) (hx : nsIn K mainGlobals x = some none) (hn : x ≠ "__name__") (h : bootBuiltins x = some v) : (cxOf K T h₀ mg mb).gl x v :=
  .inr ⟨mg_none_of X G hx, (hb x hn).trans h⟩

theorem chTab_ok (X : K.In h₀) (G : h₀.Ns mainGlobals mg) (hb : ∀ x : Str, x ≠ "__name__" → mb x = bootBuiltins x) (h : chTab K T = true) : TabOk (cxOf K T h₀ mg mb) T := by
  unfold chTab at h
  rw [Bool.and_eq_true, Bool.and_eq_true, Bool.and_eq_true, Bool.and_eq_true, List.all_eq_true, List.all_eq_true, List.all_eq_true, List.all_eq_true, List.all_eq_true] at h
  obtain ⟨⟨⟨⟨h1, h2⟩, h3⟩, h4⟩, h5⟩ := h
  have nn : ∀ n : Str, n ∈ (["len", "int", "chr", "sum", "sorted", "range", "min", "type", "list", "str", "zip", "enumerate"] : List Str) → nsIn K mainGlobals n = some none := fun n hn => by
    have := h5 n hn
    split at this
    · assumption
    · cases this
  refine ⟨fun id f hm => ?_, fun name f hm => ?_, fun id i hm => ?_, fun id k hm => ?_, fun f hl hu => ?_, ?_, ?_, ?_, ?_, ?_, ?_⟩
  · have := h1 _ hm
    simp only [Bool.and_eq_true, decide_eq_true_eq] at this
    obtain ⟨⟨q1, q2⟩, q3⟩ := this
    refine ⟨.inl ?_, q3⟩
    split at q2
    · rename_i a ha
      rw [decide_eq_true_eq] at q2
      show mg id = some (fvOf K T f)
      rw [ha, q2]
      exact mg_of X G (isR_ok q1)
    · cases q2
  · have := h2 _ hm
    simp only [Bool.and_eq_true, decide_eq_true_eq, Bool.not_eq_true'] at this
    obtain ⟨⟨⟨⟨⟨⟨q1, q2⟩, q3⟩, q4⟩, q5⟩, q6⟩, q7⟩ := this
    refine ⟨q1, ⟨mA K (gA K "Headers") name, ?_, isR_ok q2, q4⟩, q5, q6, q7⟩
    split at q3
    · rename_i a ha
      rw [decide_eq_true_eq] at q3
      show fvOf K T f = _
      rw [ha, q3]
    · cases q3
  · have := h3 _ hm
    split at this
    · rename_i j t q
      rw [decide_eq_true_eq] at this
      subst this
      exact ⟨t, .inl (mg_of X G q)⟩
    · cases this
  · have := h4 _ hm
    simp only [Bool.and_eq_true, decide_eq_true_eq] at this
    obtain ⟨⟨q1, q2⟩, q3⟩ := this
    refine .inl ?_
    show mg id = some (if k = 0 then .ref (gA K "_name_disallowed_re") else if k = 1 then .ref (gA K "_value_disallowed_re") else .ref (k - 2))
    rw [mg_of X G (isR_ok q3), q2]
    by_cases k0 : k = 0
    · rw [if_pos k0, if_pos k0]
    · rw [if_neg k0, if_neg k0, if_pos (by omega)]
  · refine gl_boot X G hb (nn _ ?_) ?_ (boot_b1 f hl hu)
    · cases f <;> simp [b1Name] at hl hu ⊢
    · cases f <;> decide
  · exact gl_boot X G hb (nn _ (by simp)) (by decide) boot_min'
  · exact gl_boot X G hb (nn _ (by simp)) (by decide) boot_type'
  · exact gl_boot X G hb (nn _ (by simp)) (by decide) boot_list'
  · exact gl_boot X G hb (nn _ (by simp)) (by decide) boot_str'
  · exact gl_boot X G hb (nn _ (by simp)) (by decide) boot_zip'
  · exact gl_boot X G hb (nn _ (by simp)) (by decide) boot_enum'

noncomputable def isNone2 (o : Option (Option Value)) : Bool := match o with
  | some none => true
  | _ => false
theorem isNone2_ok {o : Option (Option Value)} (h : isNone2 o = true) : o = some none := by
  unfold isNone2 at h; split at h
  · rfl
  · cases h
noncomputable def isBu (o : Option (Option Value)) (b : String) : Bool := match o with
  | some (some (.builtin x)) => decide (x = b)
  | _ => false
theorem isBu_ok {o : Option (Option Value)} {b : String} (h : isBu o b = true) : o = some (some (.builtin b)) := by
  unfold isBu at h; split at h
  · rw [decide_eq_true_eq] at h; rw [h]
  · cases h
noncomputable def chCls (K : Frag) : Bool :=
  plainGet K (gA K "Headers") hkey && hasDictIn K (gA K "Headers") && isNone2 (findIn K (.ref (gA K "Headers")) hkey) && noGet K none &&
  isBu (findIn K (.ref (gA K "Headers")) "__setattr__") "object.__setattr__" && plainOver K (gA K "Headers") && isNone2 (takerIn K (gA K "Headers") hkey) && makesIn K (gA K "Headers") &&
  decide (isR (findIn K (.ref (gA K "Headers")) "__init__") = some (mA K (gA K "Headers") "__init__")) && isFn K (.ref (mA K (gA K "Headers") "__init__")) && keepIn K (.ref (gA K "Headers"))

theorem chCls_ok (X : K.In h₀) (G : h₀.Ns mainGlobals mg) (B : h₀.Ns builtinsNs mb) (nl : h₀.NoLimit) (h : chCls K = true) : GF (cxOf K T h₀ mg mb) ∧ GC (cxOf K T h₀ mg mb) (mA K (gA K "Headers") "__init__") := by
  unfold chCls at h
  simp only [Bool.and_eq_true, decide_eq_true_eq] at h
  obtain ⟨⟨⟨⟨⟨⟨⟨⟨⟨⟨h1, h2⟩, h3⟩, h4⟩, h5⟩, h6⟩, h7⟩, h8⟩, h9⟩, h10⟩, h11⟩ := h
  refine ⟨⟨X, G, B, nl, h1, h2, isNone2_ok h3, h4, fun k => ?_⟩, ⟨isBu_ok h5, h6, isNone2_ok h7, h8, isR_ok h9, h10, h11⟩⟩
  show ∃ a, (if k = 0 then Value.ref (gA K "_name_disallowed_re") else if k = 1 then Value.ref (gA K "_value_disallowed_re") else Value.ref (k - 2)) = .ref a
  split
  · exact ⟨_, rfl⟩
  · split <;> exact ⟨_, rfl⟩

noncomputable def chPat (K : Frag) (a : Addr) (cd : List Nat) : Bool := match K.lookup a with
  | some ⟨.type t, none, .fields fs, sl⟩ => sl.isEmpty && decide (t = "re.Pattern") && (match fs.getD 5 .none with
    | .ref b => (match K.lookup b with
      | some ⟨.type t2, none, .seq ws _, sl2⟩ => sl2.isEmpty && decide (t2 = "tuple") && decide (((ws.map Builtin.Re.reRawOf).map (·.toNat)).toList = cd)
      | _ => false)
    | _ => false) && decide (Builtin.Re.reRawNat (fs.getD 6 .none) = 0)
  | _ => false
theorem chPat_ok {a : Addr} {cd : List Nat} (X : K.In h₀) (h : chPat K a cd = true) : ∃ (T : Addr) (fs ws : Array Value) (n : Nat), h₀.get? a = some { cls := .type "re.Pattern", data := .fields fs } ∧ fs.getD 5 .none = .ref T ∧
  Builtin.Re.reRawNat (fs.getD 6 .none) = 0 ∧ h₀.get? T = some { cls := .type "tuple", data := .seq ws n } ∧ (ws.map Builtin.Re.reRawOf).map (·.toNat) = cd.toArray := by
  unfold chPat at h
  split at h
  · rename_i t fs sl q1
    simp only [Bool.and_eq_true, decide_eq_true_eq, Array.isEmpty_iff] at h
    obtain ⟨⟨⟨rfl, rfl⟩, h2⟩, h3⟩ := h
    split at h2
    · rename_i b q2
      split at h2
      · rename_i t2 ws n sl2 q3
        simp only [Bool.and_eq_true, decide_eq_true_eq, Array.isEmpty_iff] at h2
        obtain ⟨⟨rfl, rfl⟩, h4⟩ := h2
        exact ⟨b, fs, ws, n, X _ _ q1, q2, h3, X _ _ q3, by rw [← h4]⟩
      · cases h2
    · cases h2
  · cases h
theorem pats_ok (X : K.In h₀) (h0 : chPat K (gA K "_name_disallowed_re") codeN = true) (h1 : chPat K (gA K "_value_disallowed_re") codeV = true) : PatAt (cxOf K T h₀ mg mb) := by
  intro k hk
  match k, hk with
  | 0, _ =>
    obtain ⟨b, fs, ws, n, q1, q2, q3, q4, q5⟩ := chPat_ok X h0
    exact ⟨_, b, fs, ws, n, codeN, rfl, .inl rfl, q1, q2, q3, q4, q5⟩
  | 1, _ =>
    obtain ⟨b, fs, ws, n, q1, q2, q3, q4, q5⟩ := chPat_ok X h1
    exact ⟨_, b, fs, ws, n, codeV, rfl, .inr rfl, q1, q2, q3, q4, q5⟩
end

theorem len0 {α : Type} {l : List α} (h : l.length = 0) : l = [] := List.eq_nil_of_length_eq_zero h
theorem len1 {α : Type} {l : List α} (h : l.length = 1) : ∃ x, l = [x] := by
  match l, h with
  | [x], _ => exact ⟨x, rfl⟩
theorem len2 {α : Type} {l : List α} (h : l.length = 2) : ∃ x y, l = [x, y] := by
  match l, h with
  | [x, y], _ => exact ⟨x, y, rfl⟩
theorem len3 {α : Type} {l : List α} (h : l.length = 3) : ∃ x y z, l = [x, y, z] := by
  match l, h with
  | [x, y, z], _ => exact ⟨x, y, z, rfl⟩
theorem len4 {α : Type} {l : List α} (h : l.length = 4) : ∃ x y z u, l = [x, y, z, u] := by
  match l, h with
  | [x, y, z, u], _ => exact ⟨x, y, z, u, rfl⟩
end Mine

-- L3
set_option autoImplicit false
set_option maxRecDepth 100000
namespace Mine
open PySem PySem.W PyProof.Rows

noncomputable def BindC (K : Frag) (fd : FuncData) (args : Args) (binds : List (Str × Value)) : Prop := ∀ S, peek K S (bindArgs fd args) = some binds
structure BindS (s : Shared) (fd : FuncData) (args : Args) (binds : List (Str × Value)) : Prop where
  h : BindsTo s fd args binds
theorem bindC (K : Frag) (s : Shared) (fd : FuncData) (args : Args) (binds : List (Str × Value)) (X : K.In s.heap) (h : BindC K fd args binds) : BindS s fd args binds := ⟨kp_binds X h⟩

noncomputable def IsSt (x : Stmt) : Prop := ∃ q1 q2 q3 q4, x = .Assign [.Attribute (.Name "self" q1) hkey q2] (.Name "headers" q3) q4
noncomputable def ckStore (x : Stmt) : Chk (IsSt x) := wAssign x fun l v p => vOne (P := fun l => IsSt (.Assign l v p)) l fun a => vAttr (P := fun a => IsSt (.Assign [a] v p)) a fun o n q => vName (P := fun o => IsSt (.Assign [.Attribute o n q] v p)) o fun i r => vName (P := fun v => IsSt (.Assign [.Attribute (.Name i r) n q] v p)) v fun j t =>
  .sub (Q := fun i => IsSt (.Assign [.Attribute (.Name i r) n q] (.Name j t) p)) "self" i (.sub (Q := fun j => IsSt (.Assign [.Attribute (.Name _ r) n q] (.Name j t) p)) "headers" j (.sub (Q := fun n => IsSt (.Assign [.Attribute (.Name _ r) n q] (.Name _ t) p)) hkey n (.yes ⟨r, q, t, p, rfl⟩)))

noncomputable def chIni (K : Frag) (nm : List Str) : Bool :=
  chFn K nm (mA K (gA K "Headers") "__init__") ["self", "headers"] &&
  (match (bodyOf (fdOf K (mA K (gA K "Headers") "__init__")))[2]? with
    | some x => (ckStore x).b
    | none => false) &&
  decide ((fdOf K (mA K (gA K "Headers") "__init__")).scope.names.lookup ("self" : Str) = some .local) && decide ((fdOf K (mA K (gA K "Headers") "__init__")).scope.names.lookup ("headers" : Str) = some .local)

theorem split3 {α : Type} {l : List α} {x : α} (h : l[2]? = some x) : l = l.take 2 ++ x :: l.drop 3 := by
  match l, h with
  | a :: b :: c :: r, h => simp at h; subst h; simp

section
variable {K : Frag} {T : Tab} {h₀ : Heap} {mg mb : Str → Option Value} {prog : Program} {w : World}

theorem ini_ok {nm : List Str} {p1 p2 : PSs} (X : K.In h₀) (C : GC (cxOf K T h₀ mg mb) (mA K (gA K "Headers") "__init__")) (h : chIni K nm = true) (h2 : CkSs T nm p1 (fdOf K (mA K (gA K "Headers") "__init__")).scope ((bodyOf (fdOf K (mA K (gA K "Headers") "__init__"))).take 2)) (h3 : CkSs T nm p2 (fdOf K (mA K (gA K "Headers") "__init__")).scope ((bodyOf (fdOf K (mA K (gA K "Headers") "__init__"))).drop 3)) (sf : ∀ Φ, SelfFree Φ nm.length p1)
    (b0 : ∀ (s : Shared) (x : Value), K.In s.heap → BindsTo s (fdOf K (mA K (gA K "Headers") "__init__")) ⟨[x], []⟩ [("self", x), ("headers", .none)])
    (b1 : ∀ (s : Shared) (x y : Value), K.In s.heap → BindsTo s (fdOf K (mA K (gA K "Headers") "__init__")) ⟨[x, y], []⟩ [("self", x), ("headers", y)]) :
    ∃ a fd c1 c2 q1 q2 q3 q4, ClsOk (cxOf K T h₀ mg mb) T nm p1 p2 a fd c1 c2 "self" "headers" q1 q2 q3 q4 := by
  unfold chIni at h
  simp only [Bool.and_eq_true, decide_eq_true_eq] at h
  obtain ⟨⟨⟨h1, h4⟩, h5⟩, h6⟩ := h
  split at h4
  · rename_i x hx
    obtain ⟨q1, q2, q3, q4, rfl⟩ := (ckStore _).ok h4
    have := chFn_ok (c := cxOf K T h₀ mg mb) X rfl h1
    rw [show bodyOf (fdOf (cxOf K T h₀ mg mb).K (mA K (gA K "Headers") "__init__")) = _ from split3 hx] at this
    exact ⟨_, _, _, _, q1, q2, q3, q4, this, C, h2, h3, fun x => rfl, h5, h6, by decide +kernel, by decide +kernel, b0, b1, sf⟩
  · cases h4

theorem wellInts {c : Cx} {h : Heap} {P : Params} : ∀ {ns : List Int} {vs : List Value}, WellAll P h vs (ns.map fun i => .int i) → VRels c h [] (ns.map V.int) vs
  | [], _, x => by cases x; rfl
  | n :: ns, _, x => by
    cases x with
    | cons a b => cases a; exact ⟨_, _, rfl, ⟨_, rfl⟩, wellInts b⟩

theorem mem_look {β : Type} {l : List (Nat × β)} {x : Nat} {y : β} (h : l.lookup x = some y) : (x, y) ∈ l := by
  induction l with
  | nil => exact nosome h
  | cons p l ih =>
    rw [List.lookup_cons] at h
    cases e : x == p.1 with
    | true =>
      rw [e] at h
      rw [← someq h, eq_of_beq e]; exact .head _
    | false => rw [e] at h; exact .tail _ (ih h)
theorem me_of {l : List (Nat × FD)} {f : Nat} {d : FD} (h : (l.all fun p => !(Nat.blt p.1 10) || p.2.m) = true) (hd : l.lookup f = some d) (hf : f < 10) : d.m = true := by
  have := List.all_eq_true.mp h _ (mem_look hd)
  rw [show Nat.blt f 10 = true from Nat.ble_eq.mpr hf] at this
  exact this
noncomputable def fvIs (K : Frag) (T : Tab) (f : Nat) (a : Addr) : Bool := match fvOf K T f with
  | .ref b => decide (b = a)
  | _ => false
theorem fvIs_ok {K : Frag} {T : Tab} {f : Nat} {a : Addr} (h : fvIs K T f a = true) : fvOf K T f = .ref a := by
  unfold fvIs at h
  split at h
  · rename_i q; rw [decide_eq_true_eq] at h; rw [q, h]
  · cases h

noncomputable def IsFor (x : Stmt) : Prop := ∃ pk pv x1 pt pp apos cpos lb pos, x = .For (.Tuple [.Name "k" pk, .Name "v" pv] x1 pt) (.Call (.Attribute (.Name "_params" pp) "items" apos) [] [] cpos) lb [] pos ∧ (apos.endLine == cpos.line) = true
noncomputable def ckFor (x : Stmt) : Chk (IsFor x) := wFor x fun t i b o p => vNil (P := fun o => IsFor (.For t i b o p)) o (vTup (P := fun t => IsFor (.For t i b [] p)) t fun l x1 pt => vTwo (P := fun l => IsFor (.For (.Tuple l x1 pt) i b [] p)) l fun z u =>
  vName (P := fun z => IsFor (.For (.Tuple [z, u] x1 pt) i b [] p)) z fun n1 pk => vName (P := fun u => IsFor (.For (.Tuple [.Name n1 pk, u] x1 pt) i b [] p)) u fun n2 pv =>
  vCall (P := fun i => IsFor (.For (.Tuple [.Name n1 pk, .Name n2 pv] x1 pt) i b [] p)) i fun f es ks cp => vNil (P := fun ks => IsFor (.For _ (.Call f es ks cp) b [] p)) ks (vNil (P := fun es => IsFor (.For _ (.Call f es [] cp) b [] p)) es (
  vAttr (P := fun f => IsFor (.For _ (.Call f [] [] cp) b [] p)) f fun o nm ap => vName (P := fun o => IsFor (.For _ (.Call (.Attribute o nm ap) [] [] cp) b [] p)) o fun n3 pp =>
  .sub (Q := fun n1 => IsFor (.For (.Tuple [.Name n1 pk, .Name n2 pv] x1 pt) _ b [] p)) "k" n1 (.sub (Q := fun n2 => IsFor (.For (.Tuple [.Name _ pk, .Name n2 pv] x1 pt) _ b [] p)) "v" n2
    (.sub (Q := fun nm => IsFor (.For _ (.Call (.Attribute _ nm ap) [] [] cp) b [] p)) "items" nm (.sub (Q := fun n3 => IsFor (.For _ (.Call (.Attribute (.Name n3 pp) _ ap) [] [] cp) b [] p)) "_params" n3 (.map (fun h => ⟨pk, pv, x1, pt, pp, ap, cp, b, p, rfl, h⟩) (.t _))))))))

noncomputable def chAdd (K : Frag) (nm : List Str) (a : Addr) : Bool :=
  chFn K nm a ["self", "_name", "_value", "_params"] && (match (bodyOf (fdOf K a))[2]? with
    | some x => (ckFor x).b
    | none => false) && (["k", "v", "_params"] : List Str).all fun x => decide ((fdOf K a).scope.names.lookup x = some .local)

noncomputable def BindD (K : Frag) (fd : FuncData) (args : Args) (binds : Addr → List (Str × Value)) : Prop := ∀ S, peek1 K S (bindArgs fd args) = some (dictOf [] 0, fun D => some (binds D))
theorem bindD {K : Frag} {M : Model} {A : Around} {E : Value → Shared → Prop} {s : Shared} {α : Type} {r : Addr → α} {o : Obj} {Q : α → Shared → Prop} (X : K.In s.heap) (hQ : Q (r s.heap.objs.size) { s with heap := s.heap.push o }) :
    ∀ (t : Sem α) (g : Addr → Option α), peek1 K ⟨M.prog, M.w.params⟩ t = some (o, g) → (∀ D, g D = some (r D)) → wpAny M A t Q E s := by
  intro t
  induction t with
  | rule _ k ih => intro g e hg Γ p hΓ; exact ih () g e hg Γ p hΓ
  | point _ k ih => intro g e hg Γ p hΓ; exact ih () g e hg Γ p hΓ
  | ask k ih => intro g e hg Γ p hΓ; exact ih _ g e hg Γ p hΓ
  | load a _ k ih =>
    intro g e hg Γ p hΓ
    simp only [peek1] at e
    split at e
    · rename_i ob ho; exact ⟨ob, X _ _ ho, ih ob g e hg Γ p hΓ⟩
    · cases e
  | alloc ob k _ =>
    intro g e hg
    have e : some (ob, fun D => peek K ⟨M.prog, M.w.params⟩ (k D)) = some (o, g) := e
    obtain ⟨e1, e2⟩ := Prod.mk.inj (Option.some.inj e)
    subst e1
    subst e2
    show wpAny M A (alloc ob >>= k) Q E s
    exact wpAny_bind (wpAny_alloc ((Looks.of_peek (M := M) (X.keeps (keepA_push _ _)) (hg _)).here hQ))
  | _ => intro g e; cases e

theorem add_top {nm : List Str} {p1 p2 : PSs} {a : Addr} (X : K.In h₀) (hv : fvOf K T 6 = .ref a) (h : chAdd K nm a = true) (h2 : CkSs T nm p1 (fdOf K a).scope ((bodyOf (fdOf K a)).take 2)) (h3 : CkSs T nm p2 (fdOf K a).scope ((bodyOf (fdOf K a)).drop 3))
    (hb : ∀ x y z : Value, BindD K (fdOf K a) ⟨[x, y, z], []⟩ fun D => [("self", x), ("_name", y), ("_value", z), ("_params", .ref D)]) :
    ∃ a fd c1 c2 body pid ps, AddOk (cxOf K T h₀ mg mb) T nm p1 p2 a fd c1 c2 body pid ps := by
  unfold chAdd at h
  rw [Bool.and_eq_true, Bool.and_eq_true] at h
  obtain ⟨⟨h1, h4⟩, h5⟩ := h
  have h5 := List.all_eq_true.mp h5
  split at h4
  · rename_i x hx
    obtain ⟨pk, pv, x1, pt, pp, apos, cpos, lb, pos, rfl, hl⟩ := (ckFor _).ok h4
    have := chFn_ok (c := cxOf K T h₀ mg mb) X hv h1
    exact ⟨_, _, _, _, _, "_params", _, this, ⟨⟨"k", "v", pk, pv, x1, pt, pp, apos, cpos, lb, pos, split3 hx, of_decide_eq_true (h5 _ (.head _)), of_decide_eq_true (h5 _ (.tail _ (.head _))), hl⟩, of_decide_eq_true (h5 _ (.tail _ (.tail _ (.head _)))), by decide +kernel⟩, rfl, rfl, h2, h3, fun x => rfl, fun s vs X' hl M A E Q hQ => by
      obtain ⟨x, y, z, rfl⟩ := len3 hl
      exact bindD (α := List (Str × Value)) (K := K) (M := M) (Q := Q) (o := dictOf [] 0) (r := fun D => [("self", x), ("_name", y), ("_value", z), ("_params", .ref D)]) X' hQ _ _ (hb x y z _) fun _ => rfl⟩
  · cases h4

structure FnK (K : Frag) (T : Tab) (f : Nat) (nm : List Str) (p : PSs) (n d : Nat) (kw : List Str) (a : Addr) (ps : List Str) : Prop where
  v : fvIs K T f a = true
  f : chFn K nm a ps = true
  m : CkSs T nm p (fdOf K a).scope (bodyOf (fdOf K a))
  l : ps.length = n + d
  b : ∀ (s : Shared) (vs ks : List Value), K.In s.heap → (vs ++ ks).length = n → ks.length = kw.length → BindS s (fdOf K a) ⟨vs, kw.zip ks⟩ (ps.zip ((vs ++ ks) ++ List.replicate d .none))

structure LawK (K : Frag) (T : Tab) (D : Nat → Option FD) (nm : List Str) (p1 p2 : PSs) (na : List Str) (r1 r2 : PSs) (Nl : List Str) (pl : PSs) : Prop where
  tab : chTab K T = true
  cls : chCls K = true
  pa0 : chPat K (gA K "_name_disallowed_re") codeN = true
  pa1 : chPat K (gA K "_value_disallowed_re") codeV = true
  ini : chIni K nm = true
  m1 : CkSs T nm p1 (fdOf K (mA K (gA K "Headers") "__init__")).scope ((bodyOf (fdOf K (mA K (gA K "Headers") "__init__"))).take 2)
  m2 : CkSs T nm p2 (fdOf K (mA K (gA K "Headers") "__init__")).scope ((bodyOf (fdOf K (mA K (gA K "Headers") "__init__"))).drop 3)
  sf : ∀ Φ, SelfFree Φ nm.length p1
  b0 : ∀ (s : Shared) (x : Value), K.In s.heap → BindS s (fdOf K (mA K (gA K "Headers") "__init__")) ⟨[x], []⟩ [("self", x), ("headers", .none)]
  b1 : ∀ (s : Shared) (x y : Value), K.In s.heap → BindS s (fdOf K (mA K (gA K "Headers") "__init__")) ⟨[x, y], []⟩ [("self", x), ("headers", y)]
  fns : ∀ f d, D f = some d → ∃ a ps, FnK K T f d.nm d.p d.n d.d (T.kw f) a ps
  me : ∀ f d, f < 10 → D f = some d → d.m = true
  f12 : fvIs K T 12 (gA K "Headers") = true
  v6 : fvIs K T 6 (mA K (gA K "Headers") "add_header") = true
  ad : chAdd K na (mA K (gA K "Headers") "add_header") = true
  a1 : CkSs T na r1 (fdOf K (mA K (gA K "Headers") "add_header")).scope ((bodyOf (fdOf K (mA K (gA K "Headers") "add_header"))).take 2)
  a2 : CkSs T na r2 (fdOf K (mA K (gA K "Headers") "add_header")).scope ((bodyOf (fdOf K (mA K (gA K "Headers") "add_header"))).drop 3)
  ab : ∀ x y z : Value, BindD K (fdOf K (mA K (gA K "Headers") "add_header")) ⟨[x, y, z], []⟩ fun D => [("self", x), ("_name", y), ("_value", z), ("_params", .ref D)]
  k6 : T.kw 6 = []
  k12 : T.kw 12 = []
  law : isR (nsIn K mainGlobals "law") = some (gA K "law")
  lf : chFn K Nl (gA K "law") ["script"] = true
  lm : CkSs T Nl pl (fdOf K (gA K "law")).scope (bodyOf (fdOf K (gA K "law")))
  lb : ∀ (s : Shared) (x : Value), K.In s.heap → BindS s (fdOf K (gA K "law")) ⟨[x], []⟩ [("script", x)]

theorem law_top {D : Nat → Option FD} {nm : List Str} {p1 p2 : PSs} {na : List Str} {r1 r2 : PSs} {Nl : List Str} {pl : PSs} {s : Shared} (X : K.In s.heap) (G : s.heap.Ns mainGlobals mg) (B : s.heap.Ns builtinsNs mb) (nl : s.heap.NoLimit) (hb : ∀ x : Str, x ≠ "__name__" → mb x = bootBuiltins x)
    (W : LawK K T D nm p1 p2 na r1 r2 Nl pl) {fa : Addr} (hfa : mg "law" = some (.ref fa)) {l : Addr} {P : Params} {ns : List Int} (hl : Well P s.heap (.ref l) (.list (ns.map fun i => .int i))) (n : Nat) (hn : n ≤ 8) {H' : Hp}
    (plain : runF (tower D nm.length p1 p2 na.length r1 r2 n) pl (slots0 Nl.length [.lst (ns.map V.int)]) [] = some (.bool true, H')) {R : Result → Shared → Prop}
    (post : ∀ h' tk, KeepA s.heap h' → R (.ok (.ret (.bool true))) (sht s h' tk)) : codeAny (model prog w) callerA (.call (.ref fa) ⟨[.ref l], []⟩) R s := by
  have t := chTab_ok (T := T) (mb := mb) X G hb W.tab
  obtain ⟨GFx, GCx⟩ := chCls_ok (T := T) X G B nl W.cls
  have S : SearchOk (cxOf K T s.heap mg mb) prog w := search_ok (pats_ok X W.pa0 W.pa1)
  obtain ⟨a, fd, c1, c2, q1, q2, q3, q4, ci⟩ := ini_ok X GCx W.ini W.m1 W.m2 W.sf (fun s x a => (W.b0 s x a).h) (fun s x y a => (W.b1 s x y a).h)
  obtain ⟨_, _, _, _, _, _, _, ai⟩ := add_top X (fvIs_ok W.v6) W.ad W.a1 W.a2 W.ab
  have PP := tower_ok (prog := prog) (w := w) t GFx S (D := D) (fun f d hd => by
    obtain ⟨a, ps, e⟩ := W.fns f d hd
    exact ⟨a, _, _, ps, chFn_ok (c := cxOf K T s.heap mg mb) X (fvIs_ok e.v) e.f, e.m, e.l, fun s vs ks a b c => (e.b s vs ks a b c).h⟩) W.me ci ai (fvIs_ok W.f12) W.k12 W.k6 n
  have fl : fa = gA K "law" := by
    have := mg_of X G (isR_ok W.law)
    rw [hfa] at this; cases this; rfl
  subst fl
  have AE : ∀ p, EvOk (cxOf K T s.heap mg mb) prog w T.kw Nl (tower D nm.length p1 p2 na.length r1 r2 n) (2 * n) p := all_ev GFx S PP
  have AT : ∀ p, TrOk (cxOf K T s.heap mg mb) prog w T.kw Nl (tower D nm.length p1 p2 na.length r1 r2 n) (2 * n) p := all_tr GFx S PP
  have sts : StsOk (cxOf K T s.heap mg mb) prog w T.kw Nl (tower D nm.length p1 p2 na.length r1 r2 n) (2 * n) pl := all_sts GFx AE AT pl
  obtain ⟨vs, hv, hw⟩ : ∃ vs, s.heap.get? l = some { cls := .type "list", data := .seq vs.toArray } ∧ WellAll P s.heap vs (ns.map fun i => .int i) := by
    cases hl with
    | list a b => exact ⟨_, a, b⟩
  refine law_call (fv := [.lst (ns.map V.int)]) (fx := [.ref l]) (chFn_ok (c := cxOf K T s.heap mg mb) X rfl W.lf) GFx rfl sts (W.lm.h _ t) ⟨rfl, ?_, ?_⟩ rfl (W.lb s _ X).h ?_ rfl plain fun val h' tk φ' kp rv => ?_
  · show 1 + claimMargin + 8 * (2 * n + 1) + 8 < recursionLimit
    have h1 : claimMargin = 300 := by decide +kernel
    have h2 : recursionLimit = 1000 := by decide +kernel
    omega
  · show 4 + 32 * (2 * n + 1) + 128 < cLine
    have : 700 < cLine := by decide +kernel
    omega
  · exact ⟨_, _, rfl, ⟨l, vs, _, rfl, hv, by simp, by simp [cxOf], wellInts hw⟩, rfl⟩
  · have : val = .bool true := rv
    subst this
    exact post h' tk kp
end
end Mine

-- B1
set_option autoImplicit false
namespace Mine
open PySem

noncomputable def N_init1 : List Str := ["self", "headers", "k", "v"]
noncomputable def p_init1 : PSs := (.cons (.assign 1 (.ite (.isNone true (.var 1)) (.var 1) (.lst true .nil))) (.cons (.ifs (.typeIs true true (.var 1)) (.cons .dead .nil) .nil) .nil))
noncomputable def p_init2 : PSs := (.cons (.ifs (.k (.bool true)) (.cons (.loop (.two 2 3) .plain (.var 1) (.k .none) (.cons (.expr (.call 0 (.cons (.var 0) (.cons (.var 2) (.cons (.k (.bool true)) .nil))))) (.cons (.expr (.call 0 (.cons (.var 0) (.cons (.var 3) (.cons (.k (.bool false)) .nil))))) .nil))) .nil) .nil) .nil)
noncomputable def N_conv : List Str := ["self", "value", "name", "regex"]
noncomputable def p_conv : PSs := (.cons (.ifs (.typeIs false false (.var 1)) (.cons (.assign 3 (.ite (.var 2) (.glob 0 (.pat 0)) (.glob 0 (.pat 1)))) (.cons (.ifs (.b2 .search (.var 3) (.var 1)) (.cons .dead .nil) .nil) (.cons (.ret (.var 1)) .nil))) .nil) (.cons .dead .nil))
noncomputable def N_sub : List Str := ["ch_a", "ch_b"]
noncomputable def p_sub : PSs := (.cons (.ifs (.cmp .eq (.var 0) (.var 1)) (.cons (.ret (.k (.int 0))) .nil) .nil) (.cons (.ifs (.cmp .eq (.b1 .lower (.var 0)) (.b1 .lower (.var 1))) (.cons (.ret (.glob 0 (.int 1))) .nil) .nil) (.cons (.ret (.glob 0 (.int 2))) .nil)))
noncomputable def N_lev : List Str := ["a", "b", "max_cost", "pre", "post", "row", "result", "bindex", "bchar", "distance", "minimum", "index", "substitute", "insert_delete"]
noncomputable def p_lev : PSs := (.cons (.ifs (.cmp .eq (.var 0) (.var 1)) (.cons (.ret (.k (.int 0))) .nil) .nil) (.cons (.assign 3 (.k (.int 0))) (.cons (.while 64 (.and (.cons (.sl (.var 0) (.var 3) (.k .none)) (.cons (.sl (.var 1) (.var 3) (.k .none)) (.cons (.cmp .eq (.idx (.var 0) (.var 3)) (.idx (.var 1) (.var 3))) .nil)))) (.cons (.aug 3 .add (.k (.int 1))) .nil)) (.cons (.assign 0 (.sl (.var 0) (.var 3) (.k .none))) (.cons (.assign 1 (.sl (.var 1) (.var 3) (.k .none))) (.cons (.assign 4 (.k (.int 0))) (.cons (.while 64 (.and (.cons (.sl (.var 0) (.k .none) (.or (.cons (.var 4) (.cons (.k .none) .nil)))) (.cons (.sl (.var 1) (.k .none) (.or (.cons (.var 4) (.cons (.k .none) .nil)))) (.cons (.cmp .eq (.idx (.var 0) (.bin .sub (.var 4) (.k (.int 1)))) (.idx (.var 1) (.bin .sub (.var 4) (.k (.int 1))))) .nil)))) (.cons (.aug 4 .sub (.k (.int 1))) .nil)) (.cons (.assign 0 (.sl (.var 0) (.k .none) (.or (.cons (.var 4) (.cons (.k .none) .nil))))) (.cons (.assign 1 (.sl (.var 1) (.k .none) (.or (.cons (.var 4) (.cons (.k .none) .nil))))) (.cons (.ifs (.or (.cons (.not (.var 0)) (.cons (.not (.var 1)) .nil))) (.cons (.ret (.bin .mul (.glob 0 (.int 2)) (.bin .add (.b1 .len (.var 0)) (.b1 .len (.var 1))))) .nil) .nil) (.cons (.ifs (.or (.cons (.cmp .gt (.b1 .len (.var 0)) (.glob 0 (.int 40))) (.cons (.cmp .gt (.b1 .len (.var 1)) (.glob 0 (.int 40))) .nil))) (.cons (.ret (.bin .add (.var 2) (.k (.int 1)))) .nil) .nil) (.cons (.ifs (.cmp .lt (.b1 .len (.var 1)) (.b1 .len (.var 0))) (.cons (.tup 0 1 (.tup (.cons (.var 1) (.cons (.var 0) .nil)))) .nil) .nil) (.cons (.ifs (.cmp .gt (.bin .mul (.bin .sub (.b1 .len (.var 1)) (.b1 .len (.var 0))) (.glob 0 (.int 2))) (.var 2)) (.cons (.ret (.bin .add (.var 2) (.k (.int 1)))) .nil) .nil) (.cons (.assign 5 (.lrange true (.glob 0 (.int 2)) (.bin .mul (.glob 0 (.int 2)) (.bin .add (.b1 .len (.var 0)) (.k (.int 1)))) (.glob 0 (.int 2)))) (.cons (.assign 6 (.k (.int 0))) (.cons (.loop (.one 7) .plain (.b1 .range (.b1 .len (.var 1))) (.k .none) (.cons (.assign 8 (.idx (.var 1) (.var 7))) (.cons (.assign2 9 6 (.bin .mul (.var 7) (.glob 0 (.int 2)))) (.cons (.assign 10 (.k (.int 9223372036854775807))) (.cons (.loop (.one 11) .plain (.b1 .range (.b1 .len (.var 0))) (.k .none) (.cons (.assign 12 (.bin .add (.var 9) (.call 10 (.cons (.var 8) (.cons (.idx (.var 0) (.var 11)) .nil))))) (.cons (.assign 9 (.idx (.var 5) (.var 11))) (.cons (.assign 13 (.bin .add (.b2 .min (.var 6) (.var 9)) (.glob 0 (.int 2)))) (.cons (.assign 6 (.b2 .min (.var 13) (.var 12))) (.cons (.sub (.var 5) (.var 11) (.var 6)) (.cons (.ifs (.cmp .lt (.var 6) (.var 10)) (.cons (.assign 10 (.var 6)) .nil) .nil) .nil))))))) (.cons (.ifs (.cmp .gt (.var 10) (.var 2)) (.cons (.ret (.bin .add (.var 2) (.k (.int 1)))) .nil) .nil) .nil)))))) (.cons (.ret (.var 6)) .nil)))))))))))))))))

end Mine

-- PA0
set_option autoImplicit false
set_option maxRecDepth 100000
namespace Mine
open PySem

theorem om_eq {α β : Type} {o : Option α} {f : α → β} {x : α} (h : o = some x) : o.map f = some (f x) := by subst h; rfl
section
variable {Φ : Fns} {ρ ρ1 ρ' : En} {H H' H1 H2 H3 H4 : Hp}
theorem exs_nx {s : PS} {r : PSs} (h : ex Φ s ρ H = some (.nx, ρ', H')) : exs Φ (.cons s r) ρ H = exs Φ r ρ' H' := obx_nx h
theorem exs_rt {s : PS} {r : PSs} {v : V} (h : ex Φ s ρ H = some (.rt v, ρ', H')) : exs Φ (.cons s r) ρ H = some (.rt v, ρ', H') := obx_rt h
theorem exs_nil : exs Φ .nil ρ H = some (.nx, ρ, H) := rfl
theorem ev_k' {v : V} : ev Φ (.k v) ρ H = some (v, H) := rfl
theorem ev_glob' {x : Nat} {v : V} : ev Φ (.glob x v) ρ H = some (v, H) := rfl
theorem ev_var' {x : Nat} {v : V} (h : getE ρ x = some v) : ev Φ (.var x) ρ H = some (v, H) := om_eq h
theorem ev_sl' {a lo hi : PE} {x l h r : V} (ha : ev Φ a ρ H = some (x, H1)) (hl : ev Φ lo ρ H1 = some (l, H2)) (hh : ev Φ hi ρ H2 = some (h, H3)) (hs : slV H3 x l h = some r) : ev Φ (.sl a lo hi) ρ H = some (r, H3) :=
  (ob_eq ha).trans ((ob_eq hl).trans ((ob_eq hh).trans (om_eq hs)))
theorem ev_idx' {a b : PE} {x r : V} {i : Int} (ha : ev Φ a ρ H = some (x, H1)) (hb : ev Φ b ρ H1 = some (.int i, H2)) (hs : idxV H2 x i = some r) : ev Φ (.idx a b) ρ H = some (r, H2) :=
  (ob_eq ha).trans ((obI_eq hb).trans (om_eq hs))
theorem ev_cmp' {op : COp} {a b : PE} {x y : V} {r : Bool} (ha : ev Φ a ρ H = some (x, H1)) (hb : ev Φ b ρ H1 = some (y, H2)) (hs : cmpV H2 op x y = some r) : ev Φ (.cmp op a b) ρ H = some (.bool r, H2) :=
  (ob_eq ha).trans ((ob_eq hb).trans (om_eq hs))
theorem ev_bin' {op : BOp} {a b : PE} {x y r : V} (ha : ev Φ a ρ H = some (x, H1)) (hb : ev Φ b ρ H1 = some (y, H2)) (hs : binV H2 op x y = some r) : ev Φ (.bin op a b) ρ H = some (r, H2) :=
  (ob_eq ha).trans ((ob_eq hb).trans (om_eq hs))
theorem ev_b1' {f : B1} {a : PE} {x r : V} (ha : ev Φ a ρ H = some (x, H1)) (hs : b1V H1 f x = some r) : ev Φ (.b1 f a) ρ H = some (r, H1) :=
  (ob_eq ha).trans (om_eq hs)
theorem ev_b2' {f : B2} {a b : PE} {x y r : V} (ha : ev Φ a ρ H = some (x, H1)) (hb : ev Φ b ρ H1 = some (y, H2)) (hs : b2V H2 f x y = some r) : ev Φ (.b2 f a b) ρ H = some (r, H2) :=
  (ob_eq ha).trans ((ob_eq hb).trans (om_eq hs))
theorem ev_not' {a : PE} {x : V} {b : Bool} (h : ev Φ a ρ H = some (x, H1)) (t : truthV x = some b) : ev Φ (.not a) ρ H = some (.bool (!b), H1) :=
  (ob_eq h).trans (om_eq t)
theorem ev_typeIs' {neg ls : Bool} {a : PE} {x : V} {b : Bool} (h : ev Φ a ρ H = some (x, H1)) (t : typeIsV ls x = some b) : ev Φ (.typeIs neg ls a) ρ H = some (.bool (b != neg), H1) :=
  (ob_eq h).trans (om_eq t)
theorem ev_isNone0 {b : Bool} {a : PE} {x : V} (h : ev Φ a ρ H = some (x, H1)) : ev Φ (.isNone b a) ρ H = some (.bool (isNoneV b x), H1) := ob_eq h
theorem ev_hdrs' {a : PE} {v : V} (h : ev Φ a ρ H = some (.hdr v, H1)) : ev Φ (.hdrs a) ρ H = some (v, H1) := obH_eq h
theorem ev_ite_t {t a b : PE} {v : V} (h : ev Φ t ρ H = some (v, H1)) (ht : truthV v = some true) : ev Φ (.ite t a b) ρ H = ev Φ a ρ H1 := (ob_eq h).trans (obT_true ht)
theorem ev_ite_f {t a b : PE} {v : V} (h : ev Φ t ρ H = some (v, H1)) (ht : truthV v = some false) : ev Φ (.ite t a b) ρ H = ev Φ b ρ H1 := (ob_eq h).trans (obT_false ht)
theorem and_f {e e' : PE} {r : PEs} {v : V} (h : ev Φ e ρ H = some (v, H1)) (t : truthV v = some false) : evAnd Φ (.cons e (.cons e' r)) ρ H = some (v, H1) := (ob_eq h).trans (obT_false t)
theorem and_t {e e' : PE} {r : PEs} {v : V} (h : ev Φ e ρ H = some (v, H1)) (t : truthV v = some true) : evAnd Φ (.cons e (.cons e' r)) ρ H = evAnd Φ (.cons e' r) ρ H1 := (ob_eq h).trans (obT_true t)
theorem or_t {e e' : PE} {r : PEs} {v : V} (h : ev Φ e ρ H = some (v, H1)) (t : truthV v = some true) : evOr Φ (.cons e (.cons e' r)) ρ H = some (v, H1) := (ob_eq h).trans (obT_true t)
theorem or_f {e e' : PE} {r : PEs} {v : V} (h : ev Φ e ρ H = some (v, H1)) (t : truthV v = some false) : evOr Φ (.cons e (.cons e' r)) ρ H = evOr Φ (.cons e' r) ρ H1 := (ob_eq h).trans (obT_false t)
theorem ev_and3_f1 {x y z : PE} {v : V} (h1 : ev Φ x ρ H = some (v, H1)) (t1 : truthV v = some false) : ev Φ (.and (.cons x (.cons y (.cons z .nil)))) ρ H = some (v, H1) := and_f h1 t1
theorem ev_and3_f2 {x y z : PE} {v u : V} (h1 : ev Φ x ρ H = some (v, H1)) (t1 : truthV v = some true) (h2 : ev Φ y ρ H1 = some (u, H2)) (t2 : truthV u = some false) : ev Φ (.and (.cons x (.cons y (.cons z .nil)))) ρ H = some (u, H2) := (and_t h1 t1).trans (and_f h2 t2)
theorem ev_and3_t {x y z : PE} {v u : V} (h1 : ev Φ x ρ H = some (v, H1)) (t1 : truthV v = some true) (h2 : ev Φ y ρ H1 = some (u, H2)) (t2 : truthV u = some true) : ev Φ (.and (.cons x (.cons y (.cons z .nil)))) ρ H = ev Φ z ρ H2 := (and_t h1 t1).trans (and_t h2 t2)
theorem ev_or2_t {x y : PE} {v : V} (h1 : ev Φ x ρ H = some (v, H1)) (t1 : truthV v = some true) : ev Φ (.or (.cons x (.cons y .nil))) ρ H = some (v, H1) := or_t h1 t1
theorem ev_or2_f {x y : PE} {v : V} (h1 : ev Φ x ρ H = some (v, H1)) (t1 : truthV v = some false) : ev Φ (.or (.cons x (.cons y .nil))) ρ H = ev Φ y ρ H1 := or_f h1 t1
theorem evs_nil' : evs Φ .nil ρ H = some ([], H) := rfl
theorem evs_cons' {a : PE} {r : PEs} {x : V} {l : List V} (h : ev Φ a ρ H = some (x, H1)) (h2 : evs Φ r ρ H1 = some (l, H2)) : evs Φ (.cons a r) ρ H = some (x :: l, H2) := (ob_eq h).trans (ob_eq h2)
theorem ev_tup' {l : PEs} {xs : List V} (h : evs Φ l ρ H = some (xs, H1)) : ev Φ (.tup l) ρ H = some (.tup xs, H1) := ob_eq h
theorem ev_lst' {m : Bool} {l : PEs} {xs : List V} (h : evs Φ l ρ H = some (xs, H1)) : ev Φ (.lst m l) ρ H = mkL m xs H1 := ob_eq h
theorem ev_call' {f : Nat} {l : PEs} {xs : List V} (h : evs Φ l ρ H = some (xs, H1)) : ev Φ (.call f l) ρ H = Φ f xs H1 := ob_eq h
theorem ev_tup2 {a b : PE} {x y : V} (ha : ev Φ a ρ H = some (x, H1)) (hb : ev Φ b ρ H1 = some (y, H2)) : ev Φ (.tup (.cons a (.cons b .nil))) ρ H = some (.tup [x, y], H2) := ev_tup' (evs_cons' ha (evs_cons' hb evs_nil'))
theorem ev_call1 {f : Nat} {a : PE} {x r : V} (ha : ev Φ a ρ H = some (x, H1)) (h : Φ f [x] H1 = some (r, H2)) : ev Φ (.call f (.cons a .nil)) ρ H = some (r, H2) := (ev_call' (evs_cons' ha evs_nil')).trans h
theorem ev_call2 {f : Nat} {a b : PE} {x y r : V} (ha : ev Φ a ρ H = some (x, H1)) (hb : ev Φ b ρ H1 = some (y, H2)) (h : Φ f [x, y] H2 = some (r, H3)) : ev Φ (.call f (.cons a (.cons b .nil))) ρ H = some (r, H3) := (ev_call' (evs_cons' ha (evs_cons' hb evs_nil'))).trans h
theorem ev_call3 {f : Nat} {a b c : PE} {x y z r : V} (ha : ev Φ a ρ H = some (x, H1)) (hb : ev Φ b ρ H1 = some (y, H2)) (hc : ev Φ c ρ H2 = some (z, H3)) (h : Φ f [x, y, z] H3 = some (r, H4)) : ev Φ (.call f (.cons a (.cons b (.cons c .nil)))) ρ H = some (r, H4) := (ev_call' (evs_cons' ha (evs_cons' hb (evs_cons' hc evs_nil')))).trans h
theorem ev_lrange' {a b c : PE} {x y z : Int} (ha : ev Φ a ρ H = some (.int x, H)) (hb : ev Φ b ρ H = some (.int y, H)) (hc : ev Φ c ρ H = some (.int z, H)) (h : 0 < z ∧ z ≤ 2 ^ 10 ∧ 0 ≤ x ∧ x ≤ 2 ^ 10 ∧ 0 ≤ y ∧ y ≤ 2 ^ 10) :
    ev Φ (.lrange true a b c) ρ H = mkL true ((List.range ((y - x + z - 1) / z).toNat).map fun (i : Nat) => V.int (x + z * Int.ofNat i)) H := (obI_eq ha).trans ((obI_eq hb).trans ((obI_eq hc).trans (if_pos h)))
theorem mkL_true {l : List V} {H : Hp} (h : l.length ≤ 2 ^ 16) : mkL true l H = some (.cell H.length, H ++ [l]) := if_pos h
theorem mkL_false {l : List V} {H : Hp} (h : l.length ≤ 2 ^ 16) : mkL false l H = some (.lst l, H) := if_pos h
theorem ex_assign {x : Nat} {e : PE} {v : V} (h : ev Φ e ρ H = some (v, H')) : ex Φ (.assign x e) ρ H = some (.nx, ρ.set x (some v), H') := ob_eq h
theorem ex_assign2 {x y : Nat} {e : PE} {v : V} (h : ev Φ e ρ H = some (v, H')) : ex Φ (.assign2 x y e) ρ H = some (.nx, (ρ.set x (some v)).set y (some v), H') := ob_eq h
theorem ex_tup' {x y : Nat} {e : PE} {a b : V} (h : ev Φ e ρ H = some (.tup [a, b], H')) : ex Φ (.tup x y e) ρ H = some (.nx, (ρ.set x (some a)).set y (some b), H') :=
  Eq.trans (show ex Φ (.tup x y e) ρ H = obP (ev Φ e ρ H) fun a b H => some (.nx, (ρ.set x (some a)).set y (some b), H) from rfl) (obP_eq h)
theorem ex_ret {e : PE} {v : V} (h : ev Φ e ρ H = some (v, H')) : ex Φ (.ret e) ρ H = some (.rt v, ρ, H') := ob_eq h
theorem ex_expr {e : PE} {v : V} (h : ev Φ e ρ H = some (v, H')) (hv : looseV v = some ()) : ex Φ (.expr e) ρ H = some (.nx, ρ, H') := (ob_eq h).trans (bd_eq hv)
theorem ex_ifs_t {t : PE} {a b : PSs} {v : V} (h : ev Φ t ρ H = some (v, H1)) (ht : truthV v = some true) : ex Φ (.ifs t a b) ρ H = exs Φ a ρ H1 := (ob_eq h).trans (obT_true ht)
theorem ex_ifs_f {t : PE} {a b : PSs} {v : V} (h : ev Φ t ρ H = some (v, H1)) (ht : truthV v = some false) : ex Φ (.ifs t a b) ρ H = exs Φ b ρ H1 := (ob_eq h).trans (obT_false ht)
theorem ex_sub {o i e : PE} {v : V} {n : Nat} {k : Int} {l : List V} (he : ev Φ e ρ H = some (v, H1)) (ho : ev Φ o ρ H1 = some (.cell n, H2)) (hi : ev Φ i ρ H2 = some (.int k, H3)) (hl : H3[n]? = some l) (hc : 0 ≤ k ∧ k < l.length ∧ l.length ≤ 2 ^ 16) :
    ex Φ (.sub o i e) ρ H = some (.nx, ρ, H3.set n (l.set k.toNat v)) := (ob_eq he).trans ((obC_eq ho).trans ((obI_eq hi).trans ((bd_eq hl).trans (if_pos hc))))
theorem ex_append {o e : PE} {n : Nat} {v : V} {l : List V} (ho : ev Φ o ρ H = some (.cell n, H1)) (he : ev Φ e ρ H1 = some (v, H2)) (hl : H2[n]? = some l) (hs : l.length ≤ 2 ^ 16) : ex Φ (.append o e) ρ H = some (.nx, ρ, H2.set n (l ++ [v])) := (obC_eq ho).trans ((ob_eq he).trans ((bd_eq hl).trans (if_pos hs)))
theorem ex_aug {x : Nat} {op : BOp} {e : PE} {a b r : V} (hx : getE ρ x = some a) (he : ev Φ e ρ H = some (b, H1)) (hr : augV H1 op a b = some (r, H2)) : ex Φ (.aug x op e) ρ H = some (.nx, ρ.set x (some r), H2) := (bd_eq hx).trans ((ob_eq he).trans (ob_eq hr))
theorem ex_loop {t : Tgt} {g : Gn} {a b : PE} {body : PSs} {x y : V} {items : List V} (ha : ev Φ a ρ H = some (x, H1)) (hb : ev Φ b ρ H1 = some (y, H2)) (hs : srcV g x y H2 = some items) : ex Φ (.loop t g a b body) ρ H = forL (stableV x H2) t (fun ρ H => exs Φ body ρ H) items ρ H2 := (ob_eq ha).trans ((ob_eq hb).trans (bd_eq hs))
theorem wh_stop {c : PE} {b : PSs} {n : Nat} {v : V} (h : ev Φ c ρ H = some (v, H1)) (t : truthV v = some false) : ex Φ (.while (n + 1) c b) ρ H = some (.nx, ρ, H1) := (ob_eq h).trans (obT_false t)
theorem wh_go {c : PE} {b : PSs} {n : Nat} {v : V} (h : ev Φ c ρ H = some (v, H1)) (t : truthV v = some true) (hb : exs Φ b ρ H1 = some (.nx, ρ1, H2)) : ex Φ (.while (n + 1) c b) ρ H = ex Φ (.while n c b) ρ1 H2 := (ob_eq h).trans ((obT_true t).trans (obx_nx hb))
theorem runF_rt {p : PSs} {v : V} (h : exs Φ p ρ H = some (.rt v, ρ', H')) : runF Φ p ρ H = some (v, H') := om_eq h
theorem forL_nx {st : Hp → Bool} {t : Tgt} {body : En → Hp → Option (Fl × En × Hp)} {v : V} {r : List V} (hb : bindT t v ρ = some ρ') (hx : body ρ' H = some (.nx, ρ1, H1)) (hs : st H1 = true) : forL st t body (v :: r) ρ H = forL st t body r ρ1 H1 := (bd_eq hb).trans ((obx_nx hx).trans (if_pos hs))
theorem forL_rt {st : Hp → Bool} {t : Tgt} {body : En → Hp → Option (Fl × En × Hp)} {v u : V} {r : List V} (hb : bindT t v ρ = some ρ') (hx : body ρ' H = some (.rt u, ρ1, H1)) : forL st t body (v :: r) ρ H = some (.rt u, ρ1, H1) := (bd_eq hb).trans (obx_rt hx)
end
end Mine

-- PA1
set_option autoImplicit false
set_option maxRecDepth 100000
namespace Mine
open PySem

theorem asc_iff {s : List Nat} : asc s = true ↔ ∀ c ∈ s, c < 128 := by simp [asc]
theorem toPy_str {H : Hp} {n : Nat} {s : List Nat} (h : asc s = true) : toPy H n (.str s) = some (.str ⟨s.toArray⟩) := by
  have e : atomPy (.str s) = some (.str ⟨s.toArray⟩) := if_pos h
  cases n <;> exact e
theorem toPy_int {H : Hp} {n : Nat} {i : Int} : toPy H n (.int i) = some (.int i) := by
  cases n <;> rfl
theorem eqv_str (a b : List Nat) : PyData.eqv (.str ⟨a.toArray⟩) (.str ⟨b.toArray⟩) = decide (a = b) := by
  rw [PyData.eqv, Bool.eq_iff_iff]; simp
theorem eqv_int (a b : Int) : PyData.eqv (.int a) (.int b) = decide (a = b) := by
  rw [PyData.eqv, Bool.eq_iff_iff]; simp
theorem eqV_str {H : Hp} {a b : List Nat} (ha : asc a = true) (hb : asc b = true) : eqV H (.str a) (.str b) = some (decide (a = b)) := by
  exact (bd_eq (toPy_str ha)).trans ((bd_eq (toPy_str hb)).trans (congrArg some (eqv_str a b)))
theorem eqV_int {H : Hp} {a b : Int} : eqV H (.int a) (.int b) = some (decide (a = b)) := by
  exact (bd_eq toPy_int).trans ((bd_eq toPy_int).trans (congrArg some (eqv_int a b)))
theorem asc_one {x : Nat} (h : x < 128) : asc [x] = true := by simp [asc, h]
theorem lowC_lt {x : Nat} (h : x < 128) : lowC x < 128 := by unfold lowC; split <;> omega
noncomputable def cost (x y : Nat) : Nat := if x = y then 0 else if lowC x = lowC y then 1 else 2

theorem asc_len {s : List Nat} (h : s.length ≤ 2 ^ 16) (ha : asc s = true) {H : Hp} : b1V H .lower (.str s) = some (.str (s.map lowC)) := if_pos ⟨ha, h⟩
theorem sub_run (Φ : Fns) (x y : Nat) (H : Hp) (hx : x < 128) (hy : y < 128) : runF Φ p_sub [some (.str [x]), some (.str [y])] H = some (.int (cost x y), H) := by
  have a1 := asc_one hx
  have a2 := asc_one hy
  have c1 := ev_cmp' (Φ := Φ) (op := .eq) (a := .var 0) (b := .var 1) (ρ := [some (.str [x]), some (.str [y])]) (ev_var' rfl) (ev_var' rfl) (eqV_str (H := H) a1 a2)
  have c2 := ev_cmp' (Φ := Φ) (op := .eq) (a := .b1 .lower (.var 0)) (b := .b1 .lower (.var 1)) (ρ := [some (.str [x]), some (.str [y])]) (ev_b1' (ev_var' rfl) (asc_len (Nat.le_of_ble_eq_true rfl) a1)) (ev_b1' (ev_var' rfl) (asc_len (Nat.le_of_ble_eq_true rfl) a2)) (eqV_str (H := H) (asc_one (lowC_lt hx)) (asc_one (lowC_lt hy)))
  unfold cost
  by_cases h1 : x = y
  · rw [if_pos h1]
    exact runF_rt (exs_rt ((ex_ifs_t c1 (congrArg some (decide_eq_true (by rw [h1])))).trans (exs_rt (ex_ret ev_k'))))
  · rw [if_neg h1]
    have f1 := ex_ifs_f (a := .cons (.ret (.k (.int 0))) .nil) (b := .nil) c1 (congrArg some (decide_eq_false fun q => h1 (List.cons.inj q).1))
    by_cases h2 : lowC x = lowC y
    · rw [if_pos h2]
      exact runF_rt ((exs_nx (f1.trans exs_nil)).trans (exs_rt ((ex_ifs_t c2 (congrArg some (decide_eq_true (by rw [List.map_cons, List.map_cons, h2])))).trans (exs_rt (ex_ret ev_glob')))))
    · rw [if_neg h2]
      exact runF_rt ((exs_nx (f1.trans exs_nil)).trans ((exs_nx ((ex_ifs_f c2 (congrArg some (decide_eq_false fun q => h2 (List.cons.inj q).1))).trans exs_nil)).trans (exs_rt (ex_ret ev_glob'))))

noncomputable def CallsSub (Φ : Fns) : Prop := ∀ (x y : Nat) (H : Hp), x < 128 → y < 128 → Φ 10 [.str [x], .str [y]] H = some (.int (cost x y), H)

end Mine

-- PA2
set_option autoImplicit false
set_option maxRecDepth 100000
namespace Mine
open PySem

theorem small_nat {n : Nat} (h : n ≤ 2 ^ 20) : small (n : Int) = true := by rw [small_iff]; omega
theorem small_neg {n : Nat} (h : n ≤ 2 ^ 20) : small (-(n : Int)) = true := by rw [small_iff]; omega

theorem cut_drop {α : Type} {l : List α} {p : Nat} (h : p ≤ l.length) : cut l (some (p : Int)) none = l.drop p := by
  simp [cut, clamp, Nat.min_eq_left h, List.take_of_length_le]
theorem cut_all {α : Type} {l : List α} : cut l none none = l := by simp [cut, clamp]
theorem cut_neg {α : Type} {l : List α} {q : Nat} (h0 : 0 < q) (h : q ≤ l.length) : cut l none (some (-(q : Int))) = l.take (l.length - q) := by
  have : ¬ (0 : Int) ≤ -(q : Int) := by omega
  simp only [cut, clamp, if_neg this, List.drop_zero, Nat.sub_zero]
  congr 1
  omega

theorem bnd_nat {p : Nat} (h : p ≤ 2 ^ 20) : bnd (.int (p : Int)) = some (some (p : Int)) := by
  unfold bnd; dsimp only; rw [if_pos (small_nat h)]
theorem bnd_neg {p : Nat} (h : p ≤ 2 ^ 20) : bnd (.int (-(p : Int))) = some (some (-(p : Int))) := by
  unfold bnd; dsimp only; rw [if_pos (small_neg h)]
theorem slV_gen {H : Hp} {a : List Nat} {lo hi : V} {l h : Option Int} (e1 : bnd lo = some l) (e2 : bnd hi = some h) (ha : a.length ≤ 2 ^ 16) : slV H (.str a) lo hi = some (.str (cut a l h)) := by
  unfold slV; rw [e1, e2]; exact if_pos ha
theorem slV_drop {H : Hp} {a : List Nat} {p : Nat} (h : p ≤ a.length) (ha : a.length ≤ 2 ^ 16) : slV H (.str a) (.int p) .none = some (.str (a.drop p)) := by
  rw [slV_gen (bnd_nat (by omega)) rfl ha, cut_drop h]
theorem slV_all {H : Hp} {a : List Nat} (ha : a.length ≤ 2 ^ 16) : slV H (.str a) .none .none = some (.str a) := by
  rw [slV_gen rfl rfl ha, cut_all]
theorem slV_neg {H : Hp} {a : List Nat} {q : Nat} (h0 : 0 < q) (h : q ≤ a.length) (ha : a.length ≤ 2 ^ 16) : slV H (.str a) .none (.int (-(q : Int))) = some (.str (a.take (a.length - q))) := by
  rw [slV_gen rfl (bnd_neg (by omega)) ha, cut_neg h0 h]
theorem place_nat {n p : Nat} (h : p < n) (hn : n ≤ 2 ^ 16) : place n (p : Int) = some p := by
  unfold place seqIndex?
  rw [if_pos (small_nat (by omega))]
  have h1 : ¬ (p : Int) < 0 := by omega
  simp [h, h1]
theorem place_neg {n q : Nat} (h : q < n) (hn : n ≤ 2 ^ 16) : place n (-(q : Int) - 1) = some (n - q - 1) := by
  unfold place seqIndex?
  rw [if_pos (by rw [small_iff]; omega)]
  have h1 : (-(q : Int) - 1) < 0 := by omega
  have h2 : (-(q : Int) - 1) + n = ((n - q - 1 : Nat) : Int) := by omega
  have h3 : n - q - 1 < n := by omega
  simp only [h1, if_true, h2]
  simp [h3]
theorem idxV_nat {H : Hp} {a : List Nat} {p : Nat} (h : p < a.length) (hn : a.length ≤ 2 ^ 16) : idxV H (.str a) (p : Int) = some (.str [a.getD p 0]) := by
  exact (bd_eq (place_nat h hn)).trans (om_eq (by rw [List.getElem?_eq_getElem h, List.getD_eq_getElem?_getD, List.getElem?_eq_getElem h]; rfl))
theorem idxV_neg {H : Hp} {a : List Nat} {q : Nat} (h : q < a.length) (hn : a.length ≤ 2 ^ 16) : idxV H (.str a) (-(q : Int) - 1) = some (.str [a.getD (a.length - q - 1) 0]) := by
  have : a.length - q - 1 < a.length := by omega
  exact (bd_eq (place_neg h hn)).trans (om_eq (by rw [List.getElem?_eq_getElem this, List.getD_eq_getElem?_getD, List.getElem?_eq_getElem this]; rfl))

noncomputable def w1 (a b : List Nat) : Nat → Nat → Nat
  | 0, p => p
  | n + 1, p => if p < a.length ∧ p < b.length ∧ a.getD p 0 = b.getD p 0 then w1 a b n (p + 1) else p
noncomputable def w2 (a b : List Nat) : Nat → Nat → Nat
  | 0, p => p
  | n + 1, p => if p < a.length ∧ p < b.length ∧ a.getD (a.length - p - 1) 0 = b.getD (b.length - p - 1) 0 then w2 a b n (p + 1) else p
theorem w1_le (a b : List Nat) : ∀ n p, p ≤ a.length → p ≤ b.length → w1 a b n p ≤ a.length ∧ w1 a b n p ≤ b.length
  | 0, p, h, k => ⟨h, k⟩
  | n + 1, p, h, k => by
    unfold w1; split
    · exact w1_le a b n (p + 1) (by omega) (by omega)
    · exact ⟨h, k⟩
theorem w2_le (a b : List Nat) : ∀ n p, p ≤ a.length → p ≤ b.length → w2 a b n p ≤ a.length ∧ w2 a b n p ≤ b.length
  | 0, p, h, k => ⟨h, k⟩
  | n + 1, p, h, k => by
    unfold w2; split
    · exact w2_le a b n (p + 1) (by omega) (by omega)
    · exact ⟨h, k⟩

theorem getD_lt {s : List Nat} (h : asc s = true) (p : Nat) : s.getD p 0 < 128 := by
  rw [asc_iff] at h
  rw [List.getD_eq_getElem?_getD]
  cases q : s[p]? with
  | none => simp
  | some c => exact h c (List.mem_of_getElem? q)

noncomputable abbrev lev_w1 : PS := .while 64 (.and (.cons (.sl (.var 0) (.var 3) (.k .none)) (.cons (.sl (.var 1) (.var 3) (.k .none)) (.cons (.cmp .eq (.idx (.var 0) (.var 3)) (.idx (.var 1) (.var 3))) .nil)))) (.cons (.aug 3 .add (.k (.int 1))) .nil)
noncomputable abbrev lev_w2 : PS := .while 64 (.and (.cons (.sl (.var 0) (.k .none) (.or (.cons (.var 4) (.cons (.k .none) .nil)))) (.cons (.sl (.var 1) (.k .none) (.or (.cons (.var 4) (.cons (.k .none) .nil)))) (.cons (.cmp .eq (.idx (.var 0) (.bin .sub (.var 4) (.k (.int 1)))) (.idx (.var 1) (.bin .sub (.var 4) (.k (.int 1))))) .nil)))) (.cons (.aug 4 .sub (.k (.int 1))) .nil)

theorem truthV_bool {b : Bool} : truthV (.bool b) = some b := rfl
theorem truthV_str {s : List Nat} (h : s.length ≤ 2 ^ 16) : truthV (.str s) = some (!s.isEmpty) := if_pos h

theorem w1_run {Φ : Fns} {a b : List Nat} {x : Option V} {t : En} {H : Hp} (ha : asc a = true) (hb : asc b = true) (la : a.length ≤ 2 ^ 16) (lb : b.length ≤ 2 ^ 16) :
    ∀ n p, p ≤ a.length → p ≤ b.length → a.length - p < n → ex Φ (.while n (.and (.cons (.sl (.var 0) (.var 3) (.k .none)) (.cons (.sl (.var 1) (.var 3) (.k .none)) (.cons (.cmp .eq (.idx (.var 0) (.var 3)) (.idx (.var 1) (.var 3))) .nil)))) (.cons (.aug 3 .add (.k (.int 1))) .nil)) (some (.str a) :: some (.str b) :: x :: some (.int p) :: t) H =
      some (.nx, some (.str a) :: some (.str b) :: x :: some (.int (w1 a b n p)) :: t, H) := by
  intro n
  induction n with
  | zero => intro p _ _ h; omega
  | succ n ih =>
    intro p h1 h2 hn
    have s1 := ev_sl' (Φ := Φ) (a := .var 0) (lo := .var 3) (hi := .k .none) (ρ := some (.str a) :: some (.str b) :: x :: some (.int p) :: t) (ev_var' rfl) (ev_var' rfl) ev_k' (slV_drop (H := H) h1 la)
    have s2 := ev_sl' (Φ := Φ) (a := .var 1) (lo := .var 3) (hi := .k .none) (ρ := some (.str a) :: some (.str b) :: x :: some (.int p) :: t) (ev_var' rfl) (ev_var' rfl) ev_k' (slV_drop (H := H) h2 lb)
    by_cases p1 : p < a.length
    · have t1 : truthV (.str (a.drop p)) = some true := by rw [truthV_str (by simp; omega)]; simp [p1]
      by_cases p2 : p < b.length
      · have t2 : truthV (.str (b.drop p)) = some true := by rw [truthV_str (by simp; omega)]; simp [p2]
        have s3 := ev_cmp' (Φ := Φ) (op := .eq) (ρ := some (.str a) :: some (.str b) :: x :: some (.int p) :: t) (ev_idx' (a := .var 0) (b := .var 3) (ev_var' rfl) (ev_var' rfl) (idxV_nat (H := H) p1 la)) (ev_idx' (a := .var 1) (b := .var 3) (ev_var' rfl) (ev_var' rfl) (idxV_nat (H := H) p2 lb)) (eqV_str (asc_one (getD_lt ha p)) (asc_one (getD_lt hb p)))
        by_cases hc : a.getD p 0 = b.getD p 0
        · rw [w1, if_pos ⟨p1, p2, hc⟩, ← ih (p + 1) (by omega) (by omega) (by omega)]
          refine wh_go ((ev_and3_t s1 t1 s2 t2).trans s3) (by rw [hc, truthV_bool]; simp) ?_
          exact (exs_nx (ex_aug rfl ev_k' rfl)).trans exs_nil
        · rw [w1, if_neg (fun z => hc z.2.2)]
          refine wh_stop ((ev_and3_t s1 t1 s2 t2).trans s3) ?_
          rw [truthV_bool, decide_eq_false (by simpa using hc)]
      · rw [w1, if_neg (fun z => p2 z.2.1)]
        exact wh_stop (ev_and3_f2 s1 t1 s2 (by rw [truthV_str (by simp; omega)]; simp [show b.length ≤ p by omega])) (by rw [truthV_str (by simp; omega)]; simp [show b.length ≤ p by omega])
    · rw [w1, if_neg (fun z => p1 z.1)]
      exact wh_stop (ev_and3_f1 s1 (by rw [truthV_str (by simp; omega)]; simp [show a.length ≤ p by omega])) (by rw [truthV_str (by simp; omega)]; simp [show a.length ≤ p by omega])

theorem or_none {Φ : Fns} {ρ : En} {H : Hp} {q : Nat} (h : getE ρ 4 = some (.int (-(q : Int)))) : ev Φ (.or (.cons (.var 4) (.cons (.k .none) .nil))) ρ H = some (if q = 0 then .none else .int (-(q : Int)), H) := by
  by_cases h0 : q = 0
  · subst h0
    exact (or_f (ev_var' h) rfl).trans (ev_k' (Φ := Φ) (ρ := ρ))
  · have : truthV (.int (-(q : Int))) = some true := congrArg some (bne_iff_ne.mpr fun e => h0 (Int.ofNat.inj (Int.neg_eq_zero.mp e)))
    rw [if_neg h0]; exact or_t (ev_var' h) this
theorem slV_or {H : Hp} {a : List Nat} {q : Nat} (h : q ≤ a.length) (ha : a.length ≤ 2 ^ 16) : slV H (.str a) .none (if q = 0 then .none else .int (-(q : Int))) = some (.str (a.take (a.length - q))) := by
  by_cases h0 : q = 0
  · rw [if_pos h0, slV_all ha, h0]; simp
  · rw [if_neg h0, slV_neg (by omega) h ha]

theorem w2_run {Φ : Fns} {a b : List Nat} {x y : Option V} {t : En} {H : Hp} (ha : asc a = true) (hb : asc b = true) (la : a.length ≤ 2 ^ 16) (lb : b.length ≤ 2 ^ 16) :
    ∀ n p, p ≤ a.length → p ≤ b.length → a.length - p < n → ex Φ (.while n (.and (.cons (.sl (.var 0) (.k .none) (.or (.cons (.var 4) (.cons (.k .none) .nil)))) (.cons (.sl (.var 1) (.k .none) (.or (.cons (.var 4) (.cons (.k .none) .nil)))) (.cons (.cmp .eq (.idx (.var 0) (.bin .sub (.var 4) (.k (.int 1)))) (.idx (.var 1) (.bin .sub (.var 4) (.k (.int 1))))) .nil)))) (.cons (.aug 4 .sub (.k (.int 1))) .nil)) (some (.str a) :: some (.str b) :: x :: y :: some (.int (-(p : Int))) :: t) H =
      some (.nx, some (.str a) :: some (.str b) :: x :: y :: some (.int (-(w2 a b n p : Int))) :: t, H) := by
  intro n
  induction n with
  | zero => intro p _ _ h; omega
  | succ n ih =>
    intro p h1 h2 hn
    have o := or_none (Φ := Φ) (H := H) (ρ := some (.str a) :: some (.str b) :: x :: y :: some (.int (-(p : Int))) :: t) (q := p) rfl
    have s1 := ev_sl' (Φ := Φ) (a := .var 0) (lo := .k .none) (ρ := some (.str a) :: some (.str b) :: x :: y :: some (.int (-(p : Int))) :: t) (ev_var' rfl) ev_k' o (slV_or (H := H) h1 la)
    have s2 := ev_sl' (Φ := Φ) (a := .var 1) (lo := .k .none) (ρ := some (.str a) :: some (.str b) :: x :: y :: some (.int (-(p : Int))) :: t) (ev_var' rfl) ev_k' o (slV_or (H := H) h2 lb)
    have tt : ∀ {l : List Nat}, p < l.length → l.length ≤ 2 ^ 16 → truthV (.str (l.take (l.length - p))) = some true := fun {l} h k => by
      rw [truthV_str (by simp; omega)]
      have : l.take (l.length - p) ≠ [] := by intro q; have := congrArg List.length q; simp at this; omega
      simp [List.isEmpty_iff, this]
    have tf : ∀ {l : List Nat}, ¬ p < l.length → truthV (.str (l.take (l.length - p))) = some false := fun {l} h => by
      rw [show l.length - p = 0 by omega]; rfl
    by_cases p1 : p < a.length
    · by_cases p2 : p < b.length
      · have em : ev Φ (.bin .sub (.var 4) (.k (.int 1))) (some (.str a) :: some (.str b) :: x :: y :: some (.int (-(p : Int))) :: t) H = some (.int (-(p : Int) - 1), H) := ev_bin' (ev_var' rfl) ev_k' rfl
        have s3 := ev_cmp' (Φ := Φ) (op := .eq) (ρ := some (.str a) :: some (.str b) :: x :: y :: some (.int (-(p : Int))) :: t) (ev_idx' (a := .var 0) (ev_var' rfl) em (idxV_neg (H := H) p1 la)) (ev_idx' (a := .var 1) (ev_var' rfl) em (idxV_neg (H := H) p2 lb)) (eqV_str (asc_one (getD_lt ha _)) (asc_one (getD_lt hb _)))
        by_cases hc : a.getD (a.length - p - 1) 0 = b.getD (b.length - p - 1) 0
        · rw [w2, if_pos ⟨p1, p2, hc⟩, ← ih (p + 1) (by omega) (by omega) (by omega)]
          refine wh_go ((ev_and3_t s1 (tt p1 la) s2 (tt p2 lb)).trans s3) (by rw [hc, truthV_bool]; simp) ?_
          have hi : -((p + 1 : Nat) : Int) = -(p : Int) - 1 := by omega
          rw [hi]
          exact (exs_nx (ex_aug rfl ev_k' rfl)).trans exs_nil
        · rw [w2, if_neg (fun z => hc z.2.2)]
          refine wh_stop ((ev_and3_t s1 (tt p1 la) s2 (tt p2 lb)).trans s3) ?_
          rw [truthV_bool, decide_eq_false (by simpa using hc)]
      · rw [w2, if_neg (fun z => p2 z.2.1)]
        exact wh_stop (ev_and3_f2 s1 (tt p1 la) s2 (tf p2)) (tf p2)
    · rw [w2, if_neg (fun z => p1 z.1)]
      exact wh_stop (ev_and3_f1 s1 (tf p1)) (tf p1)
end Mine

-- PA3
set_option autoImplicit false
set_option maxRecDepth 100000
namespace Mine
open PySem

noncomputable def inner (bc : Nat) : List Nat → List Nat → Nat → Nat → Nat → List Nat × Nat × Nat
  | x :: a, w :: row, d, r, mn =>
    let r' := min (min r w + 2) (d + cost bc x)
    let q := inner bc a row w r' (if r' < mn then r' else mn)
    (r' :: q.1, q.2.1, q.2.2)
  | _, row, _, r, mn => (row, r, mn)
noncomputable def BIG : Nat := 9223372036854775807
noncomputable def outer (a : List Nat) (m : Nat) : List Nat → Nat → List Nat → Nat → Nat
  | [], _, _, res => res
  | y :: b, j, row, _ =>
    let q := inner y a row (2 * j) (2 * j) BIG
    if m < q.2.2 then m + 1 else outer a m b (j + 1) q.1 q.2.1

noncomputable abbrev nI (n : Nat) : V := .int (n : Int)
noncomputable abbrev levBody : PSs := (.cons (.assign 12 (.bin .add (.var 9) (.call 10 (.cons (.var 8) (.cons (.idx (.var 0) (.var 11)) .nil))))) (.cons (.assign 9 (.idx (.var 5) (.var 11))) (.cons (.assign 13 (.bin .add (.b2 .min (.var 6) (.var 9)) (.glob 0 (.int 2)))) (.cons (.assign 6 (.b2 .min (.var 13) (.var 12))) (.cons (.sub (.var 5) (.var 11) (.var 6)) (.cons (.ifs (.cmp .lt (.var 6) (.var 10)) (.cons (.assign 10 (.var 6)) .nil) .nil) .nil))))))
noncomputable abbrev levBody2 : PSs := (.cons (.assign 8 (.idx (.var 1) (.var 7))) (.cons (.assign2 9 6 (.bin .mul (.var 7) (.glob 0 (.int 2)))) (.cons (.assign 10 (.k (.int 9223372036854775807))) (.cons (.loop (.one 11) .plain (.b1 .range (.b1 .len (.var 0))) (.k .none) levBody) (.cons (.ifs (.cmp .gt (.var 10) (.var 2)) (.cons (.ret (.bin .add (.var 2) (.k (.int 1)))) .nil) .nil) .nil)))))

theorem idxV_cell {l : List V} {p : Nat} {v : V} (h : l[p]? = some v) (hn : l.length ≤ 2 ^ 16) : idxV [l] (.cell 0) (p : Int) = some v := by
  have hp : p < l.length := (List.getElem?_eq_some_iff.mp h).1
  have e : place l.length (p : Int) = some p := place_nat hp hn
  exact (bd_eq e).trans h
theorem min_nI {H : Hp} (a b : Nat) : b2V H .min (nI a) (nI b) = some (nI (min a b)) := by
  show some (V.int (if (b : Int) < a then (b : Int) else a)) = _
  by_cases h : b < a
  · have : (b : Int) < a := by omega
    rw [if_pos this, Nat.min_eq_right (by omega)]
  · have : ¬ (b : Int) < a := by omega
    rw [if_neg this, Nat.min_eq_left (by omega)]
theorem add_nI {H : Hp} (a b : Nat) : binV H .add (nI a) (nI b) = some (nI (a + b)) := rfl
section
variable {Φ : Fns} (hΦ : CallsSub Φ) {b : List Nat} {m pre post : V} {x7 : Option V}
include hΦ

theorem body_run {ad ar rd rr : List Nat} {bc x w d r mn : Nat} {x12 x13 : Option V} (ha : asc (ad ++ x :: ar) = true) (hb : bc < 128) (hl : ad.length = rd.length) (hn : (rd ++ w :: rr).length ≤ 2 ^ 16) (hm : (ad ++ x :: ar).length ≤ 2 ^ 16) :
    exs Φ levBody [some (.str (ad ++ x :: ar)), some (.str b), some m, some pre, some post, some (.cell 0), some (nI r), x7, some (.str [bc]), some (nI d), some (nI mn), some (nI ad.length), x12, x13] [(rd ++ w :: rr).map nI] =
      some (.nx, [some (.str (ad ++ x :: ar)), some (.str b), some m, some pre, some post, some (.cell 0), some (nI (min (min r w + 2) (d + cost bc x))), x7, some (.str [bc]), some (nI w), some (nI (if min (min r w + 2) (d + cost bc x) < mn then min (min r w + 2) (d + cost bc x) else mn)), some (nI ad.length), some (nI (d + cost bc x)), some (nI (min r w + 2))],
        [(rd ++ min (min r w + 2) (d + cost bc x) :: rr).map nI]) := by
  have hx : x < 128 := (asc_iff.mp ha) x (by simp)
  have e1 : idxV [(rd ++ w :: rr).map nI] (.str (ad ++ x :: ar)) (ad.length : Int) = some (.str [x]) := by
    rw [idxV_nat (by simp) hm]; simp
  have e2 : idxV [(rd ++ w :: rr).map nI] (.cell 0) (ad.length : Int) = some (nI w) := idxV_cell (by rw [hl]; simp) (by simpa using hn)
  have e3 := hΦ bc x [(rd ++ w :: rr).map nI] hb hx
  refine (exs_nx (ex_assign (ev_bin' (ev_var' rfl) (ev_call2 (ev_var' rfl) (ev_idx' (ev_var' rfl) (ev_var' rfl) e1) e3) (add_nI _ _)))).trans ?_
  refine (exs_nx (ex_assign (ev_idx' (ev_var' rfl) (ev_var' rfl) e2))).trans ?_
  refine (exs_nx (ex_assign (ev_bin' (ev_b2' (ev_var' rfl) (ev_var' rfl) (min_nI _ _)) ev_glob' (add_nI _ 2)))).trans ?_
  refine (exs_nx (ex_assign (ev_b2' (ev_var' rfl) (ev_var' rfl) (min_nI _ _)))).trans ?_
  have hcnd : (0 : Int) ≤ (ad.length : Int) ∧ (ad.length : Int) < (List.map nI (rd ++ w :: rr)).length ∧ (List.map nI (rd ++ w :: rr)).length ≤ 2 ^ 16 := ⟨by omega, by rw [List.length_map, List.length_append, List.length_cons, hl]; omega, by rw [List.length_map]; exact hn⟩
  refine (exs_nx (ex_sub (ev_var' rfl) (ev_var' rfl) (ev_var' rfl) rfl hcnd)).trans ?_
  have hset : (List.map nI (rd ++ w :: rr)).set ((ad.length : Int)).toNat (nI (min (min r w + 2) (d + cost bc x))) = List.map nI (rd ++ min (min r w + 2) (d + cost bc x) :: rr) := by
    rw [Int.toNat_natCast, hl]; simp
  rw [hset]
  generalize min (min r w + 2) (d + cost bc x) = r'
  have hlt : ev Φ (.cmp .lt (.var 6) (.var 10)) [some (.str (ad ++ x :: ar)), some (.str b), some m, some pre, some post, some (.cell 0), some (nI r'), x7, some (.str [bc]), some (nI w), some (nI mn), some (nI ad.length), some (nI (d + cost bc x)), some (nI (min r w + 2))] [List.map nI (rd ++ r' :: rr)] = some (.bool (decide ((r' : Int) < (mn : Int))), [List.map nI (rd ++ r' :: rr)]) := ev_cmp' (ev_var' rfl) (ev_var' rfl) rfl
  by_cases h : r' < mn
  · rw [if_pos h]
    refine (exs_nx ((ex_ifs_t hlt ?_).trans ((exs_nx (ex_assign (ev_var' rfl))).trans exs_nil))).trans exs_nil
    rw [decide_eq_true (by omega)]; rfl
  · rw [if_neg h]
    refine (exs_nx ((ex_ifs_f hlt ?_).trans exs_nil)).trans exs_nil
    rw [decide_eq_false (by omega)]; rfl

theorem inner_run {n0 : Int} {bc : Nat} {H0 : Hp} {a : List Nat} (ha : asc a = true) (hb : bc < 128) (hm : a.length ≤ 2 ^ 16) : ∀ (ar ad rr rd : List Nat) (d r mn : Nat) (x11 x12 x13 : Option V), a = ad ++ ar → ad.length = rd.length → ar.length = rr.length →
    ∃ y9 y11 y12 y13, forL (stableV (.rng n0) H0) (.one 11) (fun ρ H => exs Φ levBody ρ H) ((List.range' ad.length ar.length).map nI) [some (.str a), some (.str b), some m, some pre, some post, some (.cell 0), some (nI r), x7, some (.str [bc]), some (nI d), some (nI mn), x11, x12, x13] [(rd ++ rr).map nI] =
      some (.nx, [some (.str a), some (.str b), some m, some pre, some post, some (.cell 0), some (nI (inner bc ar rr d r mn).2.1), x7, some (.str [bc]), some y9, some (nI (inner bc ar rr d r mn).2.2), y11, y12, y13], [(rd ++ (inner bc ar rr d r mn).1).map nI])
  | [], ad, rr, rd, d, r, mn, x11, x12, x13, h1, h2, h3 => by
    have : rr = [] := List.eq_nil_of_length_eq_zero h3.symm
    subst this
    exact ⟨nI d, x11, x12, x13, rfl⟩
  | x :: ar, ad, [], rd, d, r, mn, x11, x12, x13, h1, h2, h3 => by simp at h3
  | x :: ar, ad, w :: rr, rd, d, r, mn, x11, x12, x13, h1, h2, h3 => by
    have hb1 := body_run hΦ (b := b) (m := m) (pre := pre) (post := post) (x7 := x7) (ad := ad) (ar := ar) (rd := rd) (rr := rr) (x := x) (w := w) (d := d) (r := r) (mn := mn) (x12 := x12) (x13 := x13) (h1 ▸ ha) hb h2 (by rw [h1] at hm; simp at hm h3 ⊢; omega) (h1 ▸ hm)
    obtain ⟨y9, y11, y12, y13, e⟩ := inner_run ha hb hm ar (ad ++ [x]) rr (rd ++ [min (min r w + 2) (d + cost bc x)]) w (min (min r w + 2) (d + cost bc x)) (if min (min r w + 2) (d + cost bc x) < mn then min (min r w + 2) (d + cost bc x) else mn) (some (nI ad.length)) (some (nI (d + cost bc x))) (some (nI (min r w + 2))) (by rw [h1]; simp) (by simp [h2]) (by simpa using h3)
    refine ⟨y9, y11, y12, y13, ?_⟩
    rw [List.length_append, List.length_singleton] at e
    rw [List.length_cons, List.range'_succ, List.map_cons]
    rw [← h1] at hb1
    refine (forL_nx (t := .one 11) (v := nI ad.length) rfl hb1 rfl).trans ?_
    simp only [List.append_assoc, List.singleton_append] at e
    exact e

omit hΦ in
theorem upTo_nI (n : Nat) : upTo n = (List.range' 0 n).map nI := by
  unfold upTo; rw [List.range_eq_range']; rfl

theorem round_run {bc : Nat} {a row : List Nat} {j : Nat} {M : Nat} {x6 x8 x9 x10 x11 x12 x13 : Option V} (ha : asc a = true) (hbA : asc b = true) (hm : a.length ≤ 2 ^ 10) (hbl : b.length ≤ 2 ^ 10) (hr : row.length = a.length) (hj : b[j]? = some bc) :
    ∃ y8 y9 y10 y11 y12 y13, exs Φ levBody2 [some (.str a), some (.str b), some (nI M), some pre, some post, some (.cell 0), x6, some (nI j), x8, x9, x10, x11, x12, x13] [row.map nI] =
      some (if M < (inner bc a row (2 * j) (2 * j) BIG).2.2 then .rt (nI (M + 1)) else .nx, [some (.str a), some (.str b), some (nI M), some pre, some post, some (.cell 0), some (nI (inner bc a row (2 * j) (2 * j) BIG).2.1), some (nI j), y8, y9, y10, y11, y12, y13], [(inner bc a row (2 * j) (2 * j) BIG).1.map nI]) := by
  have hjl : j < b.length := (List.getElem?_eq_some_iff.mp hj).1
  have hbc : bc < 128 := asc_iff.mp hbA bc (List.mem_of_getElem? hj)
  have e1 : idxV [row.map nI] (.str b) (j : Int) = some (.str [bc]) := by
    rw [idxV_nat hjl (by omega)]; simp [hj]
  have em : binV [row.map nI] .mul (nI j) (.int 2) = some (nI (2 * j)) := by
    have h2 : small 2 = true := by decide
    have h1 : small (j : Int) = true := small_nat (by omega)
    have h3 : ((j : Int) * 2) = ((2 * j : Nat) : Int) := by omega
    exact (if_pos (by rw [h1, h2]; rfl)).trans (by rw [h3])
  refine ⟨some (.str [bc]), ?_⟩
  obtain ⟨y9, y11, y12, y13, e⟩ := inner_run hΦ (n0 := (a.length : Int)) (b := b) (m := nI M) (pre := pre) (post := post) (x7 := some (nI j)) (H0 := [row.map nI]) ha hbc (by omega) a [] row [] (2 * j) (2 * j) BIG x11 x12 x13 rfl rfl hr.symm
  refine ⟨some y9, some (nI (inner bc a row (2 * j) (2 * j) BIG).2.2), y11, y12, y13, ?_⟩
  have el : b1V [row.map nI] .len (.str a) = some (nI a.length) := by
    have h1 : a.length ≤ 2 ^ 16 := by omega
    exact if_pos h1
  have es : srcV .plain (.rng (a.length : Int)) .none [row.map nI] = some ((List.range' 0 a.length).map nI) := by
    have h1 : rngOk (a.length : Int) = true := rngOk_iff.mpr (by omega)
    exact (if_pos h1).trans (by rw [Int.toNat_natCast, upTo_nI])
  refine (exs_nx (ex_assign (ev_idx' (ev_var' rfl) (ev_var' rfl) e1))).trans ?_
  refine (exs_nx (ρ' := [some (.str a), some (.str b), some (nI M), some pre, some post, some (.cell 0), some (nI (2 * j)), some (nI j), some (.str [bc]), some (nI (2 * j)), x10, x11, x12, x13]) (H' := [row.map nI]) ?_).trans ?_
  · have := ev_bin' (Φ := Φ) (a := .var 7) (b := .glob 0 (.int 2)) (ρ := [some (.str a), some (.str b), some (nI M), some pre, some post, some (.cell 0), x6, some (nI j), some (.str [bc]), x9, x10, x11, x12, x13]) (ev_var' rfl) ev_glob' em
    exact ex_assign2 this
  refine (exs_nx (ex_assign (v := nI BIG) ev_k')).trans ?_
  refine (exs_nx (ρ' := [some (.str a), some (.str b), some (nI M), some pre, some post, some (.cell 0), some (nI (inner bc a row (2 * j) (2 * j) BIG).2.1), some (nI j), some (.str [bc]), some y9, some (nI (inner bc a row (2 * j) (2 * j) BIG).2.2), y11, y12, y13]) (H' := [(inner bc a row (2 * j) (2 * j) BIG).1.map nI]) ?_).trans ?_
  · have hs := ev_b1' (Φ := Φ) (f := .range) (r := .rng (a.length : Int)) (ev_b1' (f := .len) (a := .var 0) (ρ := [some (.str a), some (.str b), some (nI M), some pre, some post, some (.cell 0), some (nI (2 * j)), some (nI j), some (.str [bc]), some (nI (2 * j)), some (nI BIG), x11, x12, x13]) (ev_var' rfl) el) rfl
    have e' := e
    simp only [List.length_nil, List.nil_append] at e'
    exact (ex_loop hs ev_k' es).trans e'
  have hgt : ev Φ (.cmp .gt (.var 10) (.var 2)) [some (.str a), some (.str b), some (nI M), some pre, some post, some (.cell 0), some (nI (inner bc a row (2 * j) (2 * j) BIG).2.1), some (nI j), some (.str [bc]), some y9, some (nI (inner bc a row (2 * j) (2 * j) BIG).2.2), y11, y12, y13] [(inner bc a row (2 * j) (2 * j) BIG).1.map nI] =
      some (.bool (decide (((inner bc a row (2 * j) (2 * j) BIG).2.2 : Int) > (M : Int))), [(inner bc a row (2 * j) (2 * j) BIG).1.map nI]) := ev_cmp' (ev_var' rfl) (ev_var' rfl) rfl
  by_cases h : M < (inner bc a row (2 * j) (2 * j) BIG).2.2
  · rw [if_pos h]
    refine exs_rt ((ex_ifs_t hgt ?_).trans ?_)
    · rw [decide_eq_true (by omega)]; rfl
    · have := ev_bin' (Φ := Φ) (op := .add) (a := .var 2) (b := .k (.int 1)) (ρ := [some (.str a), some (.str b), some (nI M), some pre, some post, some (.cell 0), some (nI (inner bc a row (2 * j) (2 * j) BIG).2.1), some (nI j), some (.str [bc]), some y9, some (nI (inner bc a row (2 * j) (2 * j) BIG).2.2), y11, y12, y13]) (H := [(inner bc a row (2 * j) (2 * j) BIG).1.map nI]) (ev_var' rfl) ev_k' (add_nI M 1)
      exact exs_rt (ex_ret this)
  · rw [if_neg h]
    refine (exs_nx ((ex_ifs_f hgt ?_).trans exs_nil)).trans exs_nil
    rw [decide_eq_false (by omega)]; rfl
end
end Mine

-- PA4
set_option autoImplicit false
set_option maxRecDepth 100000
namespace Mine
open PySem

theorem inner_len (bc : Nat) : ∀ (a row : List Nat) (d r mn : Nat), (inner bc a row d r mn).1.length = row.length
  | [], _, _, _, _ => rfl
  | _ :: _, [], _, _, _ => rfl
  | _ :: a, _ :: row, _, _, _ => congrArg Nat.succ (inner_len bc a row _ _ _)

section
variable {Φ : Fns} (hΦ : CallsSub Φ) {pre post : V}
include hΦ

theorem outer_run {n0 : Int} {H0 : Hp} {a b : List Nat} {M : Nat} (ha : asc a = true) (hbA : asc b = true) (hm : a.length ≤ 2 ^ 10) (hbl : b.length ≤ 2 ^ 10) : ∀ (bs bd row : List Nat) (res : Nat) (x7 x8 x9 x10 x11 x12 x13 : Option V), b = bd ++ bs → row.length = a.length →
    ∃ fl ρ' H', forL (stableV (.rng n0) H0) (.one 7) (fun ρ H => exs Φ levBody2 ρ H) ((List.range' bd.length bs.length).map nI) [some (.str a), some (.str b), some (nI M), some pre, some post, some (.cell 0), some (nI res), x7, x8, x9, x10, x11, x12, x13] [row.map nI] =
      some (fl, ρ', H') ∧ ((fl = .nx ∧ getE ρ' 6 = some (nI (outer a M bs bd.length row res))) ∨ fl = .rt (nI (outer a M bs bd.length row res)))
  | [], bd, row, res, x7, x8, x9, x10, x11, x12, x13, h1, h2 => ⟨.nx, _, _, rfl, .inl ⟨rfl, rfl⟩⟩
  | y :: bs, bd, row, res, x7, x8, x9, x10, x11, x12, x13, h1, h2 => by
    obtain ⟨y8, y9, y10, y11, y12, y13, e⟩ := round_run hΦ (b := b) (pre := pre) (post := post) (bc := y) (a := a) (row := row) (j := bd.length) (M := M) (x6 := some (nI res)) (x8 := x8) (x9 := x9) (x10 := x10) (x11 := x11) (x12 := x12) (x13 := x13) ha hbA hm hbl h2 (by rw [h1]; simp)
    rw [List.length_cons, List.range'_succ, List.map_cons]
    by_cases h : M < (inner y a row (2 * bd.length) (2 * bd.length) BIG).2.2
    · rw [if_pos h] at e
      exact ⟨_, _, _, forL_rt (t := .one 7) rfl e, .inr (congrArg (fun k => Fl.rt (nI k)) (if_pos h).symm)⟩
    · rw [if_neg h] at e
      obtain ⟨fl, ρ', H', e2, h3⟩ := outer_run ha hbA hm hbl bs (bd ++ [y]) (inner y a row (2 * bd.length) (2 * bd.length) BIG).1 (inner y a row (2 * bd.length) (2 * bd.length) BIG).2.1 (some (nI bd.length)) y8 y9 y10 y11 y12 y13 (by rw [h1]; simp) (by rw [inner_len]; exact h2)
      rw [List.length_append, List.length_singleton] at e2 h3
      refine ⟨fl, ρ', H', (forL_nx (t := .one 7) rfl e rfl).trans e2, ?_⟩
      rw [show outer a M (y :: bs) bd.length row res = outer a M bs (bd.length + 1) (inner y a row (2 * bd.length) (2 * bd.length) BIG).1 (inner y a row (2 * bd.length) (2 * bd.length) BIG).2.1 from if_neg h]
      exact h3
end

noncomputable def levQ (a b : List Nat) (M : Nat) : Nat := if M < (b.length - a.length) * 2 then M + 1 else outer a M b 0 ((List.range a.length).map fun i => 2 * (i + 1)) 0
noncomputable def levP (a b : List Nat) (M : Nat) : Nat :=
  if a = b then 0 else
  let a1 := a.drop (w1 a b 64 0)
  let b1 := b.drop (w1 a b 64 0)
  let a2 := a1.take (a1.length - w2 a1 b1 64 0)
  let b2 := b1.take (b1.length - w2 a1 b1 64 0)
  if a2 = [] ∨ b2 = [] then 2 * (a2.length + b2.length) else
  if b2.length < a2.length then levQ b2 a2 M else levQ a2 b2 M

noncomputable abbrev levTail : PSs := (.cons (.ifs (.cmp .gt (.bin .mul (.bin .sub (.b1 .len (.var 1)) (.b1 .len (.var 0))) (.glob 0 (.int 2))) (.var 2)) (.cons (.ret (.bin .add (.var 2) (.k (.int 1)))) .nil) .nil) (.cons (.assign 5 (.lrange true (.glob 0 (.int 2)) (.bin .mul (.glob 0 (.int 2)) (.bin .add (.b1 .len (.var 0)) (.k (.int 1)))) (.glob 0 (.int 2)))) (.cons (.assign 6 (.k (.int 0))) (.cons (.loop (.one 7) .plain (.b1 .range (.b1 .len (.var 1))) (.k .none) levBody2) (.cons (.ret (.var 6)) .nil)))))

theorem len_str {H : Hp} {a : List Nat} (h : a.length ≤ 2 ^ 16) : b1V H .len (.str a) = some (nI a.length) := by
  exact if_pos h
section
variable {Φ : Fns} (hΦ : CallsSub Φ) {pre post : V}
include hΦ
theorem tail_run {a b : List Nat} {M : Nat} (ha : asc a = true) (hb : asc b = true) (hm : a.length ≤ 40) (hbl : b.length ≤ 40) (hab : a.length ≤ b.length) :
    ∃ ρ' H', exs Φ levTail [some (.str a), some (.str b), some (nI M), some pre, some post, none, none, none, none, none, none, none, none, none] [] = some (.rt (nI (levQ a b M)), ρ', H') := by
  have e1 := ev_b1' (Φ := Φ) (f := .len) (ρ := [some (.str a), some (.str b), some (nI M), some pre, some post, none, none, none, none, none, none, none, none, none]) (H := []) (a := .var 0) (ev_var' rfl) (len_str (by omega))
  have e2 := ev_b1' (Φ := Φ) (f := .len) (ρ := [some (.str a), some (.str b), some (nI M), some pre, some post, none, none, none, none, none, none, none, none, none]) (H := []) (a := .var 1) (ev_var' rfl) (len_str (by omega))
  have es : binV [] .sub (nI b.length) (nI a.length) = some (nI (b.length - a.length)) := by
    have : ((b.length : Int) - (a.length : Int)) = ((b.length - a.length : Nat) : Int) := by omega
    exact congrArg (fun z => some (V.int z)) this
  have mul2 : ∀ n : Nat, n ≤ 2 ^ 20 → binV [] .mul (nI n) (.int 2) = some (nI (n * 2)) := fun n hn => by
    have h2 : small 2 = true := by decide
    have h1 : small (n : Int) = true := small_nat hn
    have h3 : ((n : Int) * 2) = ((n * 2 : Nat) : Int) := by omega
    exact (if_pos (by rw [h1, h2]; rfl)).trans (by rw [h3])
  have mul3 : ∀ n : Nat, n ≤ 2 ^ 20 → binV [] .mul (.int 2) (nI n) = some (nI (2 * n)) := fun n hn => by
    have h2 : small 2 = true := by decide
    have h1 : small (n : Int) = true := small_nat hn
    have h3 : (2 * (n : Int)) = ((2 * n : Nat) : Int) := by omega
    exact (if_pos (by rw [h1, h2]; rfl)).trans (by rw [h3])
  have hgt := ev_cmp' (Φ := Φ) (op := .gt) (b := .var 2) (ev_bin' (op := .mul) (b := .glob 0 (.int 2)) (ev_bin' (op := .sub) e2 e1 es) ev_glob' (mul2 _ (by omega))) (ev_var' rfl) rfl
  by_cases h : M < (b.length - a.length) * 2
  · rw [show levQ a b M = M + 1 from if_pos h]
    refine ⟨_, _, (exs_rt ((ex_ifs_t hgt ?_).trans (exs_rt (ex_ret (ev_bin' (ev_var' rfl) ev_k' (add_nI M 1))))))⟩
    rw [decide_eq_true (by omega)]; rfl
  · rw [show levQ a b M = outer a M b 0 ((List.range a.length).map fun i => 2 * (i + 1)) 0 from if_neg h]
    have eb := ev_bin' (Φ := Φ) (op := .mul) (a := .glob 0 (.int 2)) ev_glob' (ev_bin' (op := .add) (b := .k (.int 1)) e1 ev_k' (add_nI _ 1)) (mul3 (a.length + 1) (by omega))
    have el := ev_lrange' (Φ := Φ) (a := .glob 0 (.int 2)) (c := .glob 0 (.int 2)) (x := 2) (z := 2) ev_glob' eb ev_glob' (by omega)
    have hlist : ((List.range ((((2 * (a.length + 1) : Nat) : Int) - 2 + 2 - 1) / 2).toNat).map fun (i : Nat) => V.int (2 + 2 * Int.ofNat i)) = ((List.range a.length).map fun i => 2 * (i + 1)).map nI := by
      have : ((((2 * (a.length + 1) : Nat) : Int) - 2 + 2 - 1) / 2).toNat = a.length := by omega
      rw [this, List.map_map]
      apply List.map_congr_left
      intro i _
      show V.int (2 + 2 * (i : Int)) = V.int ((2 * (i + 1) : Nat) : Int)
      congr 1; omega
    rw [hlist, mkL_true (by simp; omega)] at el
    obtain ⟨fl, ρ', H', eo, h3⟩ := outer_run hΦ (pre := pre) (post := post) (n0 := (b.length : Int)) (H0 := [((List.range a.length).map fun i => 2 * (i + 1)).map nI]) (M := M) ha hb (by omega) (by omega) b [] ((List.range a.length).map fun i => 2 * (i + 1)) 0 none none none none none none none rfl (by simp)
    simp only [List.length_nil] at eo h3
    have hs : srcV .plain (.rng (b.length : Int)) .none [((List.range a.length).map fun i => 2 * (i + 1)).map nI] = some ((List.range' 0 b.length).map nI) := by
      have h1 : rngOk (b.length : Int) = true := rngOk_iff.mpr (by omega)
      exact (if_pos h1).trans (by rw [Int.toNat_natCast, upTo_nI])
    have hr := ev_b1' (Φ := Φ) (f := .range) (r := .rng (b.length : Int)) (ev_b1' (f := .len) (a := .var 1) (ρ := [some (.str a), some (.str b), some (nI M), some pre, some post, some (.cell 0), some (nI 0), none, none, none, none, none, none, none]) (H := [((List.range a.length).map fun i => 2 * (i + 1)).map nI]) (ev_var' rfl) (len_str (by omega))) rfl
    have hloop : ex Φ (.loop (.one 7) .plain (.b1 .range (.b1 .len (.var 1))) (.k .none) levBody2) [some (.str a), some (.str b), some (nI M), some pre, some post, some (.cell 0), some (nI 0), none, none, none, none, none, none, none] [((List.range a.length).map fun i => 2 * (i + 1)).map nI] = some (fl, ρ', H') := by
      exact (ex_loop hr ev_k' hs).trans eo
    have st1 : ∀ {r : PSs}, exs Φ (.cons (.assign 5 (.lrange true (.glob 0 (.int 2)) (.bin .mul (.glob 0 (.int 2)) (.bin .add (.b1 .len (.var 0)) (.k (.int 1)))) (.glob 0 (.int 2)))) r) [some (.str a), some (.str b), some (nI M), some pre, some post, none, none, none, none, none, none, none, none, none] [] =
      exs Φ r [some (.str a), some (.str b), some (nI M), some pre, some post, some (.cell 0), none, none, none, none, none, none, none, none] [((List.range a.length).map fun i => 2 * (i + 1)).map nI] := exs_nx (ex_assign el)
    have first : ∀ {r : PSs}, exs Φ (.cons (.ifs (.cmp .gt (.bin .mul (.bin .sub (.b1 .len (.var 1)) (.b1 .len (.var 0))) (.glob 0 (.int 2))) (.var 2)) (.cons (.ret (.bin .add (.var 2) (.k (.int 1)))) .nil) .nil) r) [some (.str a), some (.str b), some (nI M), some pre, some post, none, none, none, none, none, none, none, none, none] [] =
      exs Φ r [some (.str a), some (.str b), some (nI M), some pre, some post, none, none, none, none, none, none, none, none, none] [] := by
      refine exs_nx ((ex_ifs_f hgt ?_).trans exs_nil)
      rw [decide_eq_false (by omega)]; rfl
    have second : ∀ {r : PSs}, exs Φ (.cons (.assign 6 (.k (.int 0))) r) [some (.str a), some (.str b), some (nI M), some pre, some post, some (.cell 0), none, none, none, none, none, none, none, none] [((List.range a.length).map fun i => 2 * (i + 1)).map nI] =
      exs Φ r [some (.str a), some (.str b), some (nI M), some pre, some post, some (.cell 0), some (nI 0), none, none, none, none, none, none, none] [((List.range a.length).map fun i => 2 * (i + 1)).map nI] := exs_nx (ex_assign ev_k')
    rcases h3 with ⟨rfl, h3⟩ | rfl
    · exact ⟨_, _, first.trans (st1.trans (second.trans ((exs_nx hloop).trans (exs_rt (ex_ret (ev_var' h3))))))⟩
    · exact ⟨_, _, first.trans (st1.trans (second.trans (exs_rt hloop)))⟩

theorem lev_run {a b : List Nat} {M : Nat} (ha : asc a = true) (hb : asc b = true) (hm : a.length ≤ 40) (hbl : b.length ≤ 40) :
    ∃ H', runF Φ p_lev [some (.str a), some (.str b), some (nI M), none, none, none, none, none, none, none, none, none, none, none] [] = some (nI (levP a b M), H') := by
  suffices h : ∃ ρ' H', exs Φ p_lev [some (.str a), some (.str b), some (nI M), none, none, none, none, none, none, none, none, none, none, none] [] = some (.rt (nI (levP a b M)), ρ', H') by
    obtain ⟨ρ', H', e⟩ := h
    exact ⟨H', runF_rt e⟩
  have c0 := ev_cmp' (Φ := Φ) (op := .eq) (a := .var 0) (b := .var 1) (ρ := [some (.str a), some (.str b), some (nI M), none, none, none, none, none, none, none, none, none, none, none]) (H := []) (ev_var' rfl) (ev_var' rfl) (eqV_str ha hb)
  by_cases h0 : a = b
  · rw [show levP a b M = 0 from if_pos h0]
    refine ⟨_, _, exs_rt ((ex_ifs_t c0 ?_).trans (exs_rt (ex_ret ev_k')))⟩
    rw [decide_eq_true h0]; rfl
  · have e0 : levP a b M = _ := if_neg h0
    rw [e0]
    dsimp only
    obtain ⟨p1, p2⟩ := w1_le a b 64 0 (by omega) (by omega)
    have r1 := w1_run (Φ := Φ) (H := []) (x := some (nI M)) (t := [none, none, none, none, none, none, none, none, none, none]) ha hb (by omega) (by omega) 64 0 (by omega) (by omega) (by omega)
    generalize w1 a b 64 0 = p at *
    have asD : ∀ {l : List Nat} (k : Nat), asc l = true → asc (l.drop k) = true := fun k h => asc_iff.mpr fun c hc => asc_iff.mp h c (List.mem_of_mem_drop hc)
    have asT : ∀ {l : List Nat} (k : Nat), asc l = true → asc (l.take k) = true := fun k h => asc_iff.mpr fun c hc => asc_iff.mp h c (List.mem_of_mem_take hc)
    have la1 : (a.drop p).length ≤ 40 := by simp; omega
    have lb1 : (b.drop p).length ≤ 40 := by simp; omega
    have d1 := ev_sl' (Φ := Φ) (a := .var 0) (lo := .var 3) (hi := .k .none) (ρ := [some (.str a), some (.str b), some (nI M), some (nI p), none, none, none, none, none, none, none, none, none, none]) (H := []) (ev_var' rfl) (ev_var' rfl) ev_k' (slV_drop p1 (by omega))
    have d2 := ev_sl' (Φ := Φ) (a := .var 1) (lo := .var 3) (hi := .k .none) (ρ := [some (.str (a.drop p)), some (.str b), some (nI M), some (nI p), none, none, none, none, none, none, none, none, none, none]) (H := []) (ev_var' rfl) (ev_var' rfl) ev_k' (slV_drop p2 (by omega))
    have ha1 := asD p ha
    have hb1 := asD p hb
    generalize a.drop p = a1 at *
    generalize b.drop p = b1 at *
    obtain ⟨q1, q2⟩ := w2_le a1 b1 64 0 (by omega) (by omega)
    have r2 := w2_run (Φ := Φ) (H := []) (x := some (nI M)) (y := some (nI p)) (t := [none, none, none, none, none, none, none, none, none]) ha1 hb1 (by omega) (by omega) 64 0 (by omega) (by omega) (by omega)
    generalize w2 a1 b1 64 0 = q at *
    have o1 := or_none (Φ := Φ) (H := []) (q := q) (ρ := [some (.str a1), some (.str b1), some (nI M), some (nI p), some (.int (-(q : Int))), none, none, none, none, none, none, none, none, none]) rfl
    have f1 := ev_sl' (Φ := Φ) (a := .var 0) (lo := .k .none) (ev_var' rfl) ev_k' o1 (slV_or q1 (by omega))
    have o2 := or_none (Φ := Φ) (H := []) (q := q) (ρ := [some (.str (a1.take (a1.length - q))), some (.str b1), some (nI M), some (nI p), some (.int (-(q : Int))), none, none, none, none, none, none, none, none, none]) rfl
    have f2 := ev_sl' (Φ := Φ) (a := .var 1) (lo := .k .none) (ev_var' rfl) ev_k' o2 (slV_or q2 (by omega))
    have ha2 := asT (a1.length - q) ha1
    have hb2 := asT (b1.length - q) hb1
    have la2 : (a1.take (a1.length - q)).length ≤ 40 := by simp; omega
    have lb2 : (b1.take (b1.length - q)).length ≤ 40 := by simp; omega
    generalize a1.take (a1.length - q) = a2 at *
    generalize b1.take (b1.length - q) = b2 at *
    have t1 : truthV (.str a2) = some (!a2.isEmpty) := truthV_str (by omega)
    have t2 : truthV (.str b2) = some (!b2.isEmpty) := truthV_str (by omega)
    have n1 := ev_not' (Φ := Φ) (a := .var 0) (ρ := [some (.str a2), some (.str b2), some (nI M), some (nI p), some (.int (-(q : Int))), none, none, none, none, none, none, none, none, none]) (H := []) (ev_var' rfl) t1
    have n2 := ev_not' (Φ := Φ) (a := .var 1) (ρ := [some (.str a2), some (.str b2), some (nI M), some (nI p), some (.int (-(q : Int))), none, none, none, none, none, none, none, none, none]) (H := []) (ev_var' rfl) t2
    have l1 := ev_b1' (Φ := Φ) (f := .len) (a := .var 0) (ρ := [some (.str a2), some (.str b2), some (nI M), some (nI p), some (.int (-(q : Int))), none, none, none, none, none, none, none, none, none]) (H := []) (ev_var' rfl) (len_str (by omega))
    have l2 := ev_b1' (Φ := Φ) (f := .len) (a := .var 1) (ρ := [some (.str a2), some (.str b2), some (nI M), some (nI p), some (.int (-(q : Int))), none, none, none, none, none, none, none, none, none]) (H := []) (ev_var' rfl) (len_str (by omega))
    -- the way to the first test
    have way : ∀ {s : PS} {r : PSs}, exs Φ (.cons (.ifs (.cmp .eq (.var 0) (.var 1)) (.cons (.ret (.k (.int 0))) .nil) .nil) (.cons (.assign 3 (.k (.int 0))) (.cons lev_w1 (.cons (.assign 0 (.sl (.var 0) (.var 3) (.k .none))) (.cons (.assign 1 (.sl (.var 1) (.var 3) (.k .none))) (.cons (.assign 4 (.k (.int 0))) (.cons lev_w2 (.cons (.assign 0 (.sl (.var 0) (.k .none) (.or (.cons (.var 4) (.cons (.k .none) .nil))))) (.cons (.assign 1 (.sl (.var 1) (.k .none) (.or (.cons (.var 4) (.cons (.k .none) .nil))))) (.cons s r)))))))))) [some (.str a), some (.str b), some (nI M), none, none, none, none, none, none, none, none, none, none, none] [] =
      exs Φ (.cons s r) [some (.str a2), some (.str b2), some (nI M), some (nI p), some (.int (-(q : Int))), none, none, none, none, none, none, none, none, none] [] := by
      intro s r
      refine (exs_nx ((ex_ifs_f c0 ?_).trans exs_nil)).trans ?_
      · rw [decide_eq_false h0]; rfl
      refine (exs_nx (ex_assign ev_k')).trans ?_
      refine (exs_nx r1).trans ?_
      refine (exs_nx (ex_assign d1)).trans ?_
      refine (exs_nx (ex_assign d2)).trans ?_
      refine (exs_nx (ex_assign ev_k')).trans ?_
      refine (exs_nx r2).trans ?_
      refine (exs_nx (ex_assign f1)).trans ?_
      exact exs_nx (ex_assign f2)
    by_cases hE : a2 = [] ∨ b2 = []
    · rw [if_pos hE]
      refine ⟨_, _, way.trans (exs_rt ((ex_ifs_t (v := .bool true) ?_ rfl).trans (exs_rt (ex_ret (ev_bin' ev_glob' (ev_bin' l1 l2 (add_nI _ _)) ?_)))))⟩
      · rcases hE with rfl | rfl
        · exact ev_or2_t n1 rfl
        · cases a2 with
          | nil => exact ev_or2_t n1 rfl
          | cons x r => exact (ev_or2_f n1 rfl).trans n2
      · have h2 : small 2 = true := by decide
        have h1 : small ((a2.length + b2.length : Nat) : Int) = true := small_nat (by omega)
        have h3 : (2 * ((a2.length + b2.length : Nat) : Int)) = ((2 * (a2.length + b2.length) : Nat) : Int) := by omega
        exact (if_pos (by rw [h1, h2]; rfl)).trans (by rw [h3])
    · rw [if_neg hE]
      have hE' : a2 ≠ [] ∧ b2 ≠ [] := not_or.mp hE
      have e1 : a2.isEmpty = false := by simpa using hE'.1
      have e2 : b2.isEmpty = false := by simpa using hE'.2
      rw [e1] at n1; rw [e2] at n2
      have o := (ev_or2_f n1 rfl).trans n2
      have g1 := ev_cmp' (Φ := Φ) (op := .gt) (b := .glob 0 (.int 40)) l1 ev_glob' rfl
      have g2 := ev_cmp' (Φ := Φ) (op := .gt) (b := .glob 0 (.int 40)) l2 ev_glob' rfl
      rw [decide_eq_false (by omega)] at g1 g2
      have og := (ev_or2_f g1 rfl).trans g2
      have lt := ev_cmp' (Φ := Φ) (op := .lt) l2 l1 rfl
      have two : ∀ {r : PSs}, exs Φ (.cons (.ifs (.or (.cons (.not (.var 0)) (.cons (.not (.var 1)) .nil))) (.cons (.ret (.bin .mul (.glob 0 (.int 2)) (.bin .add (.b1 .len (.var 0)) (.b1 .len (.var 1))))) .nil) .nil) (.cons (.ifs (.or (.cons (.cmp .gt (.b1 .len (.var 0)) (.glob 0 (.int 40))) (.cons (.cmp .gt (.b1 .len (.var 1)) (.glob 0 (.int 40))) .nil))) (.cons (.ret (.bin .add (.var 2) (.k (.int 1)))) .nil) .nil) r)) [some (.str a2), some (.str b2), some (nI M), some (nI p), some (.int (-(q : Int))), none, none, none, none, none, none, none, none, none] [] =
          exs Φ r [some (.str a2), some (.str b2), some (nI M), some (nI p), some (.int (-(q : Int))), none, none, none, none, none, none, none, none, none] [] :=
        fun {r} => (exs_nx ((ex_ifs_f o rfl).trans exs_nil)).trans (exs_nx ((ex_ifs_f og rfl).trans exs_nil))
      by_cases hs : b2.length < a2.length
      · rw [if_pos hs]
        obtain ⟨ρ', H', et⟩ := tail_run hΦ (pre := nI p) (post := .int (-(q : Int))) (M := M) hb2 ha2 lb2 la2 (by omega)
        rw [decide_eq_true (by omega)] at lt
        exact ⟨ρ', H', way.trans (two.trans ((exs_nx ((ex_ifs_t lt rfl).trans ((exs_nx (ex_tup' (ev_tup2 (ev_var' rfl) (ev_var' rfl)))).trans exs_nil))).trans et))⟩
      · rw [if_neg hs]
        obtain ⟨ρ', H', et⟩ := tail_run hΦ (pre := nI p) (post := .int (-(q : Int))) (M := M) ha2 hb2 la2 lb2 (by omega)
        rw [decide_eq_false (by omega)] at lt
        exact ⟨ρ', H', way.trans (two.trans ((exs_nx ((ex_ifs_f lt rfl).trans exs_nil)).trans et))⟩
end
end Mine

-- PB1
set_option autoImplicit false
set_option maxRecDepth 100000
namespace Mine
open PySem

theorem stable_refl {n : Nat} {H : Hp} {a : List V} (ha : H[n]? = some a) : stableV (.cell n) H H = true := by
  show stC H[n]? H[n]? = true
  rw [ha]; exact V.beqs_refl a
theorem stable_of_src {g : Gn} {x y : V} {H : Hp} {l : List V} (h : srcV g x y H = some l) : stableV x H H = true := by
  cases x with
  | cell n =>
    cases g with
    | plain => exact stable_refl h
    | _ => exact nosome h
  | _ => rfl

theorem mapC_map {st : Hp → Bool} {f : V → Hp → Option (List V × Hp)} {H : Hp} {g : V → List V} (hs : st H = true) (l : List V) (h : ∀ v ∈ l, f v H = some (g v, H)) : mapC st f l H = some (l.flatMap g, H) := by
  induction l with
  | nil => rfl
  | cons v l ih => exact (bd_eq (h v (.head _))).trans ((if_pos hs).trans (bd_eq (ih fun u hu => h u (.tail _ hu))))

theorem turn_map {Φ : Fns} {elt : PE} {t : Tgt} {ρ ρ' : En} {v r : V} {H : Hp} (h1 : bindT t v ρ = some ρ') (h2 : ev Φ elt ρ' H = some (r, H)) : turnF t false (fun ρ H => ev Φ (.k .none) ρ H) (fun ρ H => ev Φ elt ρ H) ρ v H = some ([r], H) :=
  (bd_eq h1).trans (om_eq h2)
theorem turn_yes {Φ : Fns} {elt c : PE} {t : Tgt} {ρ ρ' : En} {v r z : V} {H : Hp} (h1 : bindT t v ρ = some ρ') (hz : ev Φ c ρ' H = some (z, H)) (ht : truthV z = some true) (h2 : ev Φ elt ρ' H = some (r, H)) : turnF t true (fun ρ H => ev Φ c ρ H) (fun ρ H => ev Φ elt ρ H) ρ v H = some ([r], H) :=
  (bd_eq h1).trans ((ob_eq hz).trans ((obT_true ht).trans (om_eq h2)))
theorem turn_no {Φ : Fns} {elt c : PE} {t : Tgt} {ρ ρ' : En} {v z : V} {H : Hp} (h1 : bindT t v ρ = some ρ') (hz : ev Φ c ρ' H = some (z, H)) (ht : truthV z = some false) : turnF t true (fun ρ H => ev Φ c ρ H) (fun ρ H => ev Φ elt ρ H) ρ v H = some ([], H) :=
  (bd_eq h1).trans ((ob_eq hz).trans (obT_false ht))
theorem ev_comp_eq {Φ : Fns} {m : Bool} {elt a c b : PE} {t : Tgt} {gn : Gn} {cl : List Nat} {ρ : En} {q : Bool} {H H1 H2 : Hp} {x y : V} {items l : List V} {r : Option (V × Hp)} (ha : ev Φ a ρ H = some (x, H1)) (hb : ev Φ b ρ H1 = some (y, H2)) (hs : srcV gn x y H2 = some items)
    (hm : mapC (stableV x H2) (turnF t q (fun ρ H => ev Φ c ρ H) (fun ρ H => ev Φ elt ρ H) (clearE cl ρ)) items H2 = some (l, H2)) (hr : mkL m l H2 = r) : ev Φ (.comp m elt t gn a b cl q c) ρ H = r :=
  (ob_eq ha).trans ((ob_eq hb).trans ((bd_eq hs).trans ((ob_eq hm).trans hr)))
theorem flat_one {g : V → V} (items : List V) : List.flatMap (fun v => [g v]) items = items.map g := by
  induction items with
  | nil => rfl
  | cons v l ih => rw [List.flatMap_cons, ih]; rfl
theorem ev_comp_map {Φ : Fns} {m : Bool} {elt a b : PE} {t : Tgt} {gn : Gn} {cl : List Nat} {ρ : En} {H : Hp} {x y : V} {items : List V} {g : V → V} (ha : ev Φ a ρ H = some (x, H)) (hb : ev Φ b ρ H = some (y, H)) (hs : srcV gn x y H = some items)
    (hf : ∀ v ∈ items, ∃ ρ', bindT t v (clearE cl ρ) = some ρ' ∧ ev Φ elt ρ' H = some (g v, H)) : ev Φ (.comp m elt t gn a b cl false (.k .none)) ρ H = mkL m (items.map g) H :=
  ev_comp_eq ha hb hs (mapC_map (g := fun v => [g v]) (stable_of_src hs) items fun v hv => (hf v hv).elim fun _ h => turn_map h.1 h.2) (by rw [flat_one])

noncomputable def low (s : List Nat) : List Nat := s.map lowC
noncomputable def GS (s : List Nat) : Prop := clean s = true ∧ s.length ≤ 64
theorem clean_iff {s : List Nat} : clean s = true ↔ ∀ c ∈ s, 32 ≤ c ∧ c < 127 := by simp [clean]
theorem GS.asc {s : List Nat} (h : GS s) : asc s = true := asc_iff.mpr fun c hc => by have := clean_iff.mp h.1 c hc; omega
theorem GS.low {s : List Nat} (h : GS s) : GS (low s) := by
  refine ⟨clean_iff.mpr fun c hc => ?_, by unfold Mine.low; simpa using h.2⟩
  obtain ⟨d, hd, rfl⟩ := List.mem_map.mp hc
  have := clean_iff.mp h.1 d hd
  unfold lowC; split <;> omega
noncomputable abbrev ent (p : List Nat × List Nat) : V := .tup [.str p.1, .str p.2]

theorem low_run {H : Hp} {s : List Nat} (h : GS s) : b1V H .lower (.str s) = some (.str (low s)) := by
  have h1 := h.asc
  have h2 : s.length ≤ 2 ^ 16 := Nat.le_trans h.2 (by decide)
  exact if_pos (And.intro h1 h2)

theorem conv_run (Φ : Fns) {v : V} {s : List Nat} {b : Bool} {H : Hp} (h : GS s) : runF Φ p_conv [some (.hdr v), some (.str s), some (.bool b), none] H = some (.str s, H) := by
  suffices ∃ ρ', exs Φ p_conv [some (.hdr v), some (.str s), some (.bool b), none] H = some (.rt (.str s), ρ', H) by
    obtain ⟨ρ', e⟩ := this
    exact runF_rt e
  have ty : ev Φ (.typeIs false false (.var 1)) [some (.hdr v), some (.str s), some (.bool b), none] H = some (.bool true, H) := by
    exact ev_typeIs' (ls := false) (neg := false) (b := true) (x := .str s) (ev_var' rfl) rfl
  have se : ∀ k : Nat, k < 2 → b2V H .search (.pat k) (.str s) = some .none := fun k hk => by
    have hc : k < 2 ∧ clean s = true ∧ s.length ≤ 64 := ⟨hk, h.1, h.2⟩
    exact if_pos hc
  refine ⟨[some (.hdr v), some (.str s), some (.bool b), some (.pat (if b then 0 else 1))], exs_rt ((ex_ifs_t ty rfl).trans ?_)⟩
  have e3 : ev Φ (.ite (.var 2) (.glob 0 (.pat 0)) (.glob 0 (.pat 1))) [some (.hdr v), some (.str s), some (.bool b), none] H = some (.pat (if b then 0 else 1), H) := by
    cases b
    · exact (ev_ite_f (ev_var' rfl) rfl).trans ev_glob'
    · exact (ev_ite_t (ev_var' rfl) rfl).trans ev_glob'
  refine (exs_nx (ex_assign e3)).trans ?_
  refine (exs_nx ((ex_ifs_f (v := .none) (ev_b2' (ev_var' rfl) (ev_var' rfl) (se _ (by split <;> omega))) rfl).trans exs_nil)).trans ?_
  exact exs_rt (ex_ret (ev_var' rfl))

noncomputable def CallsConv (Φ : Fns) : Prop := ∀ (v : V) (s : List Nat) (b : Bool) (H : Hp), GS s → Φ 0 [.hdr v, .str s, .bool b] H = some (.str s, H)

theorem src_list {H : Hp} {v : V} {l : List V} (h : listV H v = some l) : srcV .plain v .none H = some l := by
  cases v <;> first | exact h | exact nosome h

theorem init1_gen (Φ : Fns) {u v0 v : V} {H H' : Hp} (h : ev Φ (.ite (.isNone true (.var 1)) (.var 1) (.lst true .nil)) (some u :: some v0 :: List.replicate 2 none) H = some (v, H')) (ht : typeIsV true v = some true) : exs Φ p_init1 (some u :: some v0 :: List.replicate 2 none) H = some (.nx, some u :: some v :: List.replicate 2 none, H') :=
  (exs_nx (ex_assign h)).trans ((exs_nx ((ex_ifs_f (ev_typeIs' (ev_var' rfl) ht) rfl).trans exs_nil)).trans exs_nil)
theorem init1_none (Φ : Fns) {u : V} {H : Hp} : exs Φ p_init1 (some u :: some .none :: List.replicate 2 none) H = some (.nx, some u :: some (.cell H.length) :: List.replicate 2 none, H ++ [[]]) :=
  init1_gen Φ ((ev_ite_f (ev_isNone0 (ev_var' rfl)) rfl).trans ((ev_lst' evs_nil').trans rfl)) rfl
theorem init1_sf (Φ : Fns) : SelfFree Φ 4 p_init1 := by
  intro u v0 H ρ' H1 w h
  have hv : ∃ v H2, ∀ a : V, ev Φ (.ite (.isNone true (.var 1)) (.var 1) (.lst true .nil)) (some a :: some v0 :: List.replicate 2 none) H = some (v, H2) := by
    cases hn : isNoneV true v0 with
    | true => exact ⟨v0, H, fun a => (ev_ite_t (ev_isNone0 (ev_var' rfl)) (congrArg some hn)).trans (ev_var' rfl)⟩
    | false => exact ⟨_, _, fun a => (ev_ite_f (ev_isNone0 (ev_var' rfl)) (congrArg some hn)).trans ((ev_lst' evs_nil').trans rfl)⟩
  obtain ⟨v, H2, hv⟩ := hv
  by_cases hb : typeIsV true v = some true
  · obtain ⟨_, q, rfl⟩ := some3 ((init1_gen Φ (hv .none) hb).symm.trans h)
    obtain ⟨_, rfl⟩ := List.cons.inj q
    exact init1_gen Φ (hv u) hb
  · have e := (exs_nx (ex_assign (hv .none))).symm.trans h
    refine obx_elim e (fun ρ2 H3 e2 _ => ?_) fun x ρ2 H3 e2 _ => ?_ <;>
      exact ob_elim e2 fun z H4 e3 e4 => ob_elim e3 fun y H5 e5 e6 => by
        obtain ⟨b, hb2, rfl, rfl⟩ := om_inv e6
        obtain ⟨rfl, rfl⟩ := some2 e5
        cases b with
        | true => exact absurd hb2 hb
        | false => exact nosome e4
theorem expr_conv {Φ : Fns} (hc : CallsConv Φ) {a e k : PE} {ρ : En} {H : Hp} {v : V} {s : List Nat} {b : Bool} (ha : ev Φ a ρ H = some (.hdr v, H)) (he : ev Φ e ρ H = some (.str s, H)) (hk : ev Φ k ρ H = some (.bool b, H)) (hs : GS s) :
    ex Φ (.expr (.call 0 (.cons a (.cons e (.cons k .nil))))) ρ H = some (.nx, ρ, H) := ex_expr (ev_call3 ha he hk (hc v s b H hs)) rfl

theorem init2_loop {Φ : Fns} (hc : CallsConv Φ) {st : Hp → Bool} {H : Hp} (hst : st H = true) {u w : V} : ∀ (es : List (List Nat × List Nat)) (x y : Option V), (∀ p ∈ es, GS p.1 ∧ GS p.2) →
    ∃ ρ', forL st (.two 2 3) (fun ρ H => exs Φ (.cons (.expr (.call 0 (.cons (.var 0) (.cons (.var 2) (.cons (.k (.bool true)) .nil))))) (.cons (.expr (.call 0 (.cons (.var 0) (.cons (.var 3) (.cons (.k (.bool false)) .nil))))) .nil)) ρ H) (es.map ent) [some (.hdr u), some w, x, y] H = some (.nx, ρ', H)
  | [], x, y, _ => ⟨_, rfl⟩
  | p :: es, x, y, h => by
    obtain ⟨ρ', e⟩ := init2_loop hc hst es (some (.str p.1)) (some (.str p.2)) fun q hq => h q (by simp [hq])
    refine ⟨ρ', (forL_nx (t := .two 2 3) (v := ent p) rfl ?_ hst).trans e⟩
    obtain ⟨g1, g2⟩ := h p (by simp)
    exact (exs_nx (expr_conv hc (ev_var' rfl) (ev_var' rfl) ev_k' g1)).trans ((exs_nx (expr_conv hc (ev_var' rfl) (ev_var' rfl) ev_k' g2)).trans exs_nil)

theorem init2_run {Φ : Fns} (hc : CallsConv Φ) {H : Hp} {v : V} {es : List (List Nat × List Nat)} (hl : listV H v = some (es.map ent)) (h : ∀ p ∈ es, GS p.1 ∧ GS p.2) :
    ∃ ρ', exs Φ p_init2 [some (.hdr v), some v, none, none] H = some (.nx, ρ', H) := by
  obtain ⟨ρ', e⟩ := init2_loop hc (stable_of_src (src_list hl)) (u := v) (w := v) es none none h
  refine ⟨ρ', (exs_nx ((ex_ifs_t (v := .bool true) ev_k' rfl).trans ((exs_nx (ρ' := ρ') (H' := H) ?_).trans exs_nil))).trans exs_nil⟩
  have hv := ev_var' (Φ := Φ) (ρ := [some (.hdr v), some v, none, none]) (x := 1) (v := v) (H := H) rfl
  exact (ex_loop hv ev_k' (src_list hl)).trans e

theorem nxO_eq {α β : Type} {o : Option (Fl × α × β)} {p : α × β} (h : o = some (.nx, p)) : nxO o = some p := by subst h; rfl
theorem init_of {Φ : Fns} {v0 v : V} {r : En} {w : Option V} {H H1 H2 : Hp} {ρ' : En} {n : Nat} {p1 p2 : PSs} (e1 : exs Φ p1 (some .none :: some v0 :: List.replicate (n - 2) none) H = some (.nx, w :: some v :: r, H1)) (e2 : exs Φ p2 (some (.hdr v) :: some v :: r) H1 = some (.nx, ρ', H2)) : initF Φ n p1 p2 v0 H = some (.hdr v, H2) :=
  (bd_eq (nxO_eq e1)).trans ((bd_eq (x := (v, r)) rfl).trans (bd_eq (nxO_eq e2)))
theorem headers0 {Φ : Fns} (hc : CallsConv Φ) {H : Hp} : initF Φ 4 p_init1 p_init2 .none H = some (.hdr (.cell H.length), H ++ [[]]) := by
  obtain ⟨ρ', e⟩ := init2_run hc (H := H ++ [[]]) (v := .cell H.length) (es := []) (by show (H ++ [[]])[H.length]? = _; rw [List.getElem?_append_right (Nat.le_refl _), Nat.sub_self]; rfl) (fun p hp => nomatch hp)
  exact init_of (init1_none Φ) e
end Mine

-- PG1
set_option autoImplicit false
set_option maxRecDepth 100000
namespace Mine
open PySem

theorem allSome_map {α β : Type} {f : α → Option β} {g : α → β} : ∀ {l : List α}, (∀ x ∈ l, f x = some (g x)) → allSome (l.map f) = some (l.map g)
  | [], _ => rfl
  | x :: l, h => by
    rw [List.map_cons, h x (.head _)]
    exact om_eq (allSome_map (f := f) (g := g) (l := l) fun y hy => h y (.tail _ hy))
noncomputable abbrev pstr (s : List Nat) : PyData := .str ⟨s.toArray⟩
theorem toPy_strs {H : Hp} {n : Nat} {v : V} {xs : List (List Nat)} (hk : (∃ l, v = .lst l) ∨ ∃ k, v = .cell k) (h : listV H v = some (xs.map V.str)) (ha : ∀ x ∈ xs, asc x = true) : toPy H (n + 1) v = some (.list (xs.map pstr)) := by
  have e : allSome ((xs.map V.str).map (toPy H n)) = some (xs.map pstr) := by
    rw [List.map_map]
    exact allSome_map fun x hx => toPy_str (ha x hx)
  rcases hk with ⟨l, rfl⟩ | ⟨k, rfl⟩
  · obtain rfl := someq h
    exact om_eq e
  · exact (show toPy H (n + 1) (.cell k) = cellPy H (toPy H n) k from rfl).trans (by unfold cellPy; rw [show H[k]? = _ from h]; exact om_eq e)
section
variable {H0 : Hp} {A B C X : List V}
end


theorem ev_lst1 {Φ : Fns} {e : PE} {ρ : En} {H H1 : Hp} {v : V} (h : ev Φ e ρ H = some (v, H1)) : ev Φ (.lst false (.cons e .nil)) ρ H = some (.lst [v], H1) := ev_lst' (evs_cons' h evs_nil')
theorem ex_aug_cell {Φ : Fns} {x n : Nat} {e : PE} {ρ : En} {H H1 : Hp} {xs ys : List V} (hx : getE ρ x = some (.cell n)) (he : ev Φ e ρ H = some (.lst ys, H1)) (hl : H1[n]? = some xs) (hs : xs.length + ys.length ≤ 2 ^ 16) : ex Φ (.aug x .add e) ρ H = some (.nx, ρ.set x (some (.cell n)), H1.set n (xs ++ ys)) :=
  ex_aug hx he (show augCell H1 n (.lst ys) = _ from (bd_eq hl).trans (if_pos hs))

theorem strs?_map : ∀ (xs : List (List Nat)), strs? (xs.map V.str) = some xs
  | [] => rfl
  | x :: xs => bd_eq (strs?_map xs)


theorem cut_take' {α : Type} {l : List α} {k : Nat} : cut l none (some (k : Int)) = l.take k := by
  simp only [cut, clamp]
  have : (0 : Int) ≤ (k : Int) := by omega
  simp only [this, if_true, Int.toNat_natCast, List.drop_zero, Nat.sub_zero]
  by_cases h : k ≤ l.length
  · rw [Nat.min_eq_left h]
  · rw [Nat.min_eq_right (by omega), List.take_length, List.take_of_length_le (by omega)]
theorem slV_ltake {H : Hp} {l : List V} {k : Nat} (hk : k ≤ 2 ^ 20) (hl : l.length ≤ 2 ^ 16) : slV H (.lst l) .none (.int (k : Int)) = some (.lst (l.take k)) := by
  unfold slV
  rw [bnd_nat hk, ← cut_take']
  exact if_pos hl
theorem mod_nI {H : Hp} {a b : Nat} (h : b ≠ 0) : binV H .mod (nI a) (nI b) = some (nI (a % b)) := by
  have h0 : ¬ (b : Int) = 0 := by omega
  have e : (a : Int).fmod (b : Int) = ((a % b : Nat) : Int) := by rw [Int.fmod_eq_emod_of_nonneg _ (by omega)]; omega
  exact (if_neg h0).trans (congrArg (fun z => some (V.int z)) e)
theorem fdiv_nI {H : Hp} {a b : Nat} (h : b ≠ 0) (ha : a ≤ 2 ^ 20) : binV H .fdiv (nI a) (nI b) = some (nI (a / b)) := by
  have h0 : ¬ (b : Int) = 0 := by omega
  have e : (a : Int).fdiv (b : Int) = ((a / b : Nat) : Int) := by rw [Int.fdiv_eq_ediv_of_nonneg _ (by omega)]; omega
  exact (if_neg h0).trans ((if_pos (small_nat ha)).trans (congrArg (fun z => some (V.int z)) e))
theorem mul_nI {H : Hp} {a b : Nat} (ha : a ≤ 2 ^ 20) (hb : b ≤ 2 ^ 20) : binV H .mul (nI a) (nI b) = some (nI (a * b)) := by
  have e : (a : Int) * (b : Int) = ((a * b : Nat) : Int) := by rw [Int.natCast_mul]
  exact (if_pos (by rw [small_nat ha, small_nat hb]; rfl)).trans (congrArg (fun z => some (V.int z)) e)
theorem pow_nI {H : Hp} {a b : Nat} (ha : a ≤ 2 ^ 20) (hb : b ≤ 64) : binV H .pow (nI a) (nI b) = some (nI (a ^ b)) := by
  have h1 : decide (0 ≤ (b : Int)) = true := decide_eq_true (by omega)
  have h2 : decide ((b : Int) ≤ 64) = true := decide_eq_true (by omega)
  have e : (a : Int) ^ ((b : Int)).toNat = ((a ^ b : Nat) : Int) := by rw [Int.toNat_natCast, Int.natCast_pow]
  exact (if_pos (by rw [small_nat ha, h1, h2]; rfl)).trans (congrArg (fun z => some (V.int z)) e)
theorem join_run {H : Hp} {ss : List (List Nat)} (h1 : ss.length ≤ 64) (h2 : ∀ s ∈ ss, s.length ≤ 64) : b2V H .join (.str []) (.lst (ss.map V.str)) = some (.str ss.flatten) := by
  have e : textsV H (.lst (ss.map V.str)) = some ss := strs?_map ss
  have hc : ss.length ≤ 64 ∧ (ss.all fun s => decide (s.length ≤ 64)) = true ∧ ([] : List Nat).length ≤ 2 := ⟨h1, List.all_eq_true.mpr fun s hs => decide_eq_true (h2 s hs), by simp⟩
  exact (bd_eq e).trans (if_pos hc)
theorem ints?_map : ∀ (l : List Int), ints? (l.map V.int) = some l
  | [] => rfl
  | x :: l => bd_eq (ints?_map l)
theorem srcRng {H : Hp} {n : Nat} (h : n < 2 ^ 20) : srcV .plain (.rng (n : Int)) .none H = some ((List.range' 0 n).map nI) := by
  have h1 : rngOk (n : Int) = true := rngOk_iff.mpr (by omega)
  exact (if_pos h1).trans (by rw [Int.toNat_natCast, upTo_nI])
noncomputable def numsOf (k : Nat) (d : List Nat) (ns : List Int) : List Nat := ((ns.take k).map (fun i => (i % 1000000).toNat) ++ d).take k
theorem nums_run {Φ : Fns} {ρ : En} {H : Hp} {ns : List Int} {k x : Nat} {d : List Nat} {dl : PE} (hx : ∀ v, ∃ ρ', bindT (.one x) v (clearE [x] ρ) = some ρ' ∧ getE ρ' x = some v) (h0 : getE ρ 0 = some (.lst (ns.map V.int))) (hn : ns.length ≤ 63) (hk : k ≤ 60) (hd : d.length ≤ 60) (hdl : ev Φ dl ρ H = some (.lst (d.map nI), H)) :
    ev Φ (.sl (.bin .add (.comp false (.bin .mod (.b1 .int (.var x)) (.bin .pow (.k (.int 10)) (.k (.int 6)))) (.one x) .plain (.sl (.var 0) (.k .none) (.k (.int (k : Int)))) (.k .none) [x] false (.k .none)) dl) (.k .none) (.k (.int (k : Int)))) ρ H = some (.lst ((numsOf k d ns).map nI), H) := by
  have e1 := ev_comp_map (Φ := Φ) (m := false) (elt := .bin .mod (.b1 .int (.var x)) (.bin .pow (.k (.int 10)) (.k (.int 6)))) (t := .one x) (gn := .plain) (cl := [x]) (ρ := ρ) (H := H) (b := .k .none) (g := fun v => match v with | .int i => nI ((i % 1000000).toNat) | _ => .none)
    (ev_sl' (ev_var' h0) ev_k' ev_k' (slV_ltake (k := k) (by omega) (by simp; omega))) ev_k' (items := (ns.map V.int).take k) rfl (fun v hv => by
    have hv := List.mem_of_mem_take hv
    obtain ⟨i, _, rfl⟩ := List.mem_map.mp hv
    obtain ⟨ρ', h1, h2⟩ := hx (.int i)
    refine ⟨ρ', h1, ev_bin' (ev_b1' (f := .int) (ev_var' h2) rfl) (ev_bin' ev_k' ev_k' (pow_nI (a := 10) (b := 6) (by omega) (by omega))) ?_⟩
    have e : i.fmod ((10 ^ 6 : Nat) : Int) = (((i % 1000000).toNat : Nat) : Int) := by
      rw [Int.fmod_eq_emod_of_nonneg _ (by omega)]; omega
    have h0 : ¬ ((10 ^ 6 : Nat) : Int) = 0 := by omega
    exact (if_neg (t := none) h0).trans (congrArg (fun z => some (V.int z)) e))
  rw [mkL_false (by simp; omega), ← List.map_take, List.map_map] at e1
  have e1 : ev Φ _ ρ H = some (.lst (((ns.take k).map fun i => (i % 1000000).toNat).map nI), H) := e1.trans (by rw [List.map_map]; rfl)
  have ea : binV H .add (.lst (((ns.take k).map fun i => (i % 1000000).toNat).map nI)) (.lst (d.map nI)) = some (.lst (((ns.take k).map (fun i => (i % 1000000).toNat) ++ d).map nI)) := by
    have hl : (((ns.take k).map fun i => (i % 1000000).toNat).map nI).length + (d.map nI).length ≤ 2 ^ 16 := by simp; omega
    rw [List.map_append]; exact if_pos hl
  have := ev_sl' (Φ := Φ) (lo := .k .none) (hi := .k (.int (k : Int))) (ev_bin' (op := .add) e1 hdl ea) ev_k' ev_k' (slV_ltake (k := k) (by omega) (by simp; omega))
  rw [← List.map_take] at this
  exact this
theorem nums_len {k : Nat} {d : List Nat} {ns : List Int} (h : d.length = k) : (numsOf k d ns).length = k := by
  unfold numsOf; simp; omega
theorem nums_lt {k : Nat} {d : List Nat} {ns : List Int} (h : ∀ x ∈ d, x < 1000000) : ∀ x ∈ numsOf k d ns, x < 1000000 := by
  intro x hx
  have hx := List.mem_of_mem_take hx
  rcases List.mem_append.mp hx with hx | hx
  · obtain ⟨i, _, rfl⟩ := List.mem_map.mp hx; omega
  · exact h x hx
theorem sum_cast (l : List Nat) : (l.map fun (n : Nat) => (n : Int)).sum = ((l.sum : Nat) : Int) := by
  induction l with
  | nil => rfl
  | cons a l ih => rw [List.map_cons, List.sum_cons, ih, List.sum_cons]; omega
theorem sum_run {H : Hp} {l : List Nat} (h : ∀ x ∈ l, x < 1000000) (hl : l.length ≤ 64) : b1V H .sum (.lst (l.map nI)) = some (nI l.sum) := by
  have e : ints? (l.map nI) = some (l.map fun (n : Nat) => (n : Int)) := by
    have : l.map nI = (l.map fun (n : Nat) => (n : Int)).map V.int := by rw [List.map_map]; rfl
    rw [this, ints?_map]
  have hc : ((l.map fun (n : Nat) => (n : Int)).all fun i => decide (-(2 ^ 32 : Int) ≤ i) && decide (i ≤ 2 ^ 32)) = true ∧ (l.map fun (n : Nat) => (n : Int)).length ≤ 64 := by
    refine ⟨List.all_eq_true.mpr fun i hi => ?_, by simpa using hl⟩
    obtain ⟨n, hn, rfl⟩ := List.mem_map.mp hi
    have := h n hn
    rw [Bool.and_eq_true, decide_eq_true_eq, decide_eq_true_eq]
    omega
  exact (bd_eq e).trans ((if_pos hc).trans (by rw [sum_cast]))

end Mine

-- QA0
set_option autoImplicit false
set_option maxRecDepth 100000
namespace Mine
open PySem

theorem mapC_maps {α : Type} {st : Hp → Bool} {f : V → Hp → Option (List V × Hp)} {H : Hp} {k : α → V} {g : α → List V} (hs : st H = true) (l : List α) (h : ∀ x ∈ l, f (k x) H = some (g x, H)) : mapC st f (l.map k) H = some (l.flatMap g, H) := by
  induction l with
  | nil => rfl
  | cons v l ih => exact (bd_eq (h v (.head _))).trans ((if_pos hs).trans (bd_eq (ih fun u hu => h u (.tail _ hu))))
theorem flat_if' {α β : Type} {g : α → β} {p : α → Bool} (items : List α) : List.flatMap (fun v => if p v then [g v] else []) items = (items.filter p).map g := by
  induction items with
  | nil => rfl
  | cons v l ih =>
    rw [List.flatMap_cons, ih, List.filter_cons]
    cases p v <;> rfl
theorem flat_one' {α β : Type} {g : α → β} (items : List α) : List.flatMap (fun v => [g v]) items = items.map g := by
  induction items with
  | nil => rfl
  | cons v l ih => rw [List.flatMap_cons, ih]; rfl
section
variable {α : Type} {Φ : Fns} {m : Bool} {elt a b c : PE} {t : Tgt} {gn : Gn} {cl : List Nat} {ρ : En} {H : Hp} {x y : V} {xs : List α} {k g : α → V}
theorem ev_cmap (ha : ev Φ a ρ H = some (x, H)) (hb : ev Φ b ρ H = some (y, H)) (hs : srcV gn x y H = some (xs.map k)) (hf : ∀ v ∈ xs, ∃ ρ', bindT t (k v) (clearE cl ρ) = some ρ' ∧ ev Φ elt ρ' H = some (g v, H)) :
    ev Φ (.comp m elt t gn a b cl false (.k .none)) ρ H = mkL m (xs.map g) H :=
  ev_comp_eq ha hb hs (mapC_maps (g := fun v => [g v]) (stable_of_src hs) xs fun v hv => (hf v hv).elim fun _ h => turn_map h.1 h.2) (by rw [flat_one'])
theorem ev_cfil {p : α → Bool} (ha : ev Φ a ρ H = some (x, H)) (hb : ev Φ b ρ H = some (y, H)) (hs : srcV gn x y H = some (xs.map k))
    (hf : ∀ v ∈ xs, ∃ ρ' z, bindT t (k v) (clearE cl ρ) = some ρ' ∧ ev Φ c ρ' H = some (z, H) ∧ truthV z = some (p v) ∧ ev Φ elt ρ' H = some (g v, H)) : ev Φ (.comp m elt t gn a b cl true c) ρ H = mkL m ((xs.filter p).map g) H :=
  ev_comp_eq ha hb hs (mapC_maps (g := fun v => if p v then [g v] else []) (stable_of_src hs) xs fun v hv => by
    obtain ⟨ρ', z, h1, h2, h3, h4⟩ := hf v hv
    cases hp : p v with
    | true => exact turn_yes h1 h2 (h3.trans (congrArg some hp)) h4
    | false => exact turn_no h1 h2 (h3.trans (congrArg some hp))) (by rw [flat_if'])
theorem forL_chk {st : Hp → Bool} {body : En → Hp → Option (Fl × En × Hp)} {C : En → Prop} {good : α → Bool} (hst : st H = true) (l : List α)
    (step : ∀ v ∈ l, ∀ ρ, C ρ → ∃ ρ' ρ1, bindT t (k v) ρ = some ρ' ∧ body ρ' H = some (if good v then .nx else .rt (.bool false), ρ1, H) ∧ C ρ1) :
    ∀ ρ, C ρ → ∃ ρ1, forL st t body (l.map k) ρ H = some (if l.all good then .nx else .rt (.bool false), ρ1, H) ∧ C ρ1 := by
  induction l with
  | nil => exact fun ρ hc => ⟨ρ, rfl, hc⟩
  | cons v l ih =>
    intro ρ hc
    obtain ⟨ρ', ρ1, h1, h2, h3⟩ := step v (.head _) ρ hc
    rw [List.all_cons]
    cases hg : good v with
    | true =>
      rw [hg] at h2
      obtain ⟨ρ2, h4, h5⟩ := ih (fun u hu => step u (.tail _ hu)) ρ1 h3
      exact ⟨ρ2, (forL_nx h1 h2 hst).trans h4, h5⟩
    | false =>
      rw [hg] at h2
      exact ⟨ρ1, forL_rt h1 h2, h3⟩
end

theorem idx_lst {H : Hp} {l : List V} {p : Nat} {v : V} (h : l[p]? = some v) (hn : l.length ≤ 2 ^ 16) : idxV H (.lst l) (p : Int) = some v :=
  (bd_eq (place_nat (List.getElem?_eq_some_iff.mp h).1 hn)).trans h
theorem idx_cel {H : Hp} {n p : Nat} {l : List V} {v : V} (hl : H[n]? = some l) (h : l[p]? = some v) (hn : l.length ≤ 2 ^ 16) : idxV H (.cell n) (p : Int) = some v :=
  (bd_eq hl).trans ((bd_eq (place_nat (List.getElem?_eq_some_iff.mp h).1 hn)).trans h)
theorem len_lst {H : Hp} {l : List V} (h : l.length ≤ 2 ^ 16) : b1V H .len (.lst l) = some (nI l.length) := if_pos h
theorem rng_nI {H : Hp} {n : Nat} : b1V H .range (nI n) = some (.rng (n : Int)) := rfl
theorem srcStrs {H : Hp} {l : List V} : srcV .plain (.lst l) .none H = some l := rfl

noncomputable abbrev pnat (n : Nat) : PyData := .int (n : Int)
theorem eqvAll_nats : ∀ (xs ys : List Nat), PyData.eqvAll (xs.map pnat) (ys.map pnat) = decide (xs = ys)
  | [], [] => by simp [PyData.eqvAll]
  | x :: xs, [] => by simp [PyData.eqvAll]
  | [], y :: ys => by simp [PyData.eqvAll]
  | x :: xs, y :: ys => by
    rw [List.map_cons, List.map_cons, PyData.eqvAll, eqvAll_nats xs ys, eqv_int, Bool.eq_iff_iff]
    simp; intro _; omega
theorem toPy_lst {H : Hp} {n : Nat} {l : List V} {ds : List PyData} (h : allSome (l.map (toPy H n)) = some ds) : toPy H (n + 1) (.lst l) = some (.list ds) := om_eq h
theorem toPy_nats {H : Hp} {n : Nat} {xs : List Nat} : toPy H (n + 1) (.lst (xs.map nI)) = some (.list (xs.map pnat)) :=
  toPy_lst (by rw [List.map_map]; exact allSome_map fun x _ => toPy_int)
theorem toPy_natss {H : Hp} {n : Nat} {xss : List (List Nat)} : toPy H (n + 2) (.lst (xss.map fun xs => .lst (xs.map nI))) = some (.list (xss.map fun xs => .list (xs.map pnat))) :=
  toPy_lst (by rw [List.map_map]; exact allSome_map fun x _ => toPy_nats)
theorem eqvAll_refl : ∀ (xss : List (List Nat)), PyData.eqvAll (xss.map fun xs => .list (xs.map pnat)) (xss.map fun xs => .list (xs.map pnat)) = true
  | [] => by simp [PyData.eqvAll]
  | x :: xs => by
    rw [List.map_cons, PyData.eqvAll, eqvAll_refl xs, PyData.eqv, eqvAll_nats]; simp
theorem eqV_natss {H : Hp} {xss : List (List Nat)} : eqV H (.lst (xss.map fun xs => .lst (xs.map nI))) (.lst (xss.map fun xs => .lst (xs.map nI))) = some true :=
  (bd_eq toPy_natss).trans ((bd_eq toPy_natss).trans (congrArg some (by rw [PyData.eqv]; exact eqvAll_refl xss)))

noncomputable def nub {α : Type} [BEq α] (d : α) (l : List α) : List α := ((List.range l.length).filter fun i => !((l.take i).contains (l.getD i d))).map fun i => l.getD i d
theorem src_enum {α : Type} {H : Hp} {k : α → V} {l : List α} {d : α} : srcV .enum (.lst (l.map k)) .none H = some ((List.range l.length).map fun i => .tup [nI i, k (l.getD i d)]) := by
  refine congrArg some ?_
  apply List.ext_getElem
  · simp
  · intro i h1 h2
    have hi : i < l.length := by simpa using h2
    simp [hi]
end Mine

-- QA1
set_option autoImplicit false
set_option maxRecDepth 100000
namespace Mine
open PySem

theorem any_nats (v : Nat) (l : List Nat) : ((l.map pnat).any fun y => PyData.eqv y (pnat v)) = l.contains v := by
  induction l with
  | nil => rfl
  | cons a l ih =>
    rw [List.map_cons, List.any_cons, ih, eqv_int, List.contains_cons]
    congr 1
    rw [Bool.eq_iff_iff, decide_eq_true_eq, beq_iff_eq]; omega
theorem any_strs (v : List Nat) (l : List (List Nat)) : ((l.map pstr).any fun y => PyData.eqv y (pstr v)) = l.contains v := by
  induction l with
  | nil => rfl
  | cons a l ih =>
    rw [List.map_cons, List.any_cons, ih, eqv_str, List.contains_cons]
    congr 1
    rw [Bool.eq_iff_iff, decide_eq_true_eq, beq_iff_eq]; exact ⟨Eq.symm, Eq.symm⟩
theorem mem_nats {H : Hp} {v : Nat} {l : List Nat} : memV H (nI v) (.lst (l.map nI)) = some (l.contains v) :=
  (bd_eq toPy_int).trans ((bd_eq (show (toPy H 8 (.lst (l.map nI))).bind listPy = some (l.map pnat) from bd_eq toPy_nats)).trans (congrArg some (any_nats v l)))
theorem mem_strs {H : Hp} {v : List Nat} {l : List (List Nat)} (hv : asc v = true) (hl : ∀ x ∈ l, asc x = true) : memV H (.str v) (.lst (l.map V.str)) = some (l.contains v) :=
  (bd_eq (toPy_str hv)).trans ((bd_eq (show (toPy H 8 (.lst (l.map V.str))).bind listPy = some (l.map pstr) from bd_eq (toPy_strs (n := 7) (xs := l) (.inl ⟨_, rfl⟩) rfl hl))).trans (congrArg some (any_strs v l)))
theorem nub_run {α : Type} [BEq α] {Φ : Fns} {ρ : En} {H : Hp} {i e s : Nat} {l : List α} {k : α → V} {d : α} (hs : getE ρ s = some (.lst (l.map k)))
    (hx : ∀ u w, ∃ ρ', bindT (.two i e) (.tup [u, w]) (clearE [i, e] ρ) = some ρ' ∧ getE ρ' i = some u ∧ getE ρ' e = some w ∧ getE ρ' s = some (.lst (l.map k))) (hn : l.length ≤ 2 ^ 16)
    (hm : ∀ j, j < l.length → memV H (k (l.getD j d)) (.lst ((l.take j).map k)) = some ((l.take j).contains (l.getD j d))) :
    ev Φ (.comp false (.var e) (.two i e) .enum (.var s) (.k .none) [i, e] true (.cmp .nmem (.var e) (.sl (.var s) (.k .none) (.var i)))) ρ H = some (.lst ((nub d l).map k), H) := by
  refine (ev_cfil (g := fun j => k (l.getD j d)) (p := fun j => !((l.take j).contains (l.getD j d))) (ev_var' hs) ev_k' (src_enum (d := d)) fun j hj => ?_).trans ?_
  · have hj := List.mem_range.mp hj
    obtain ⟨ρ', h1, h2, h3, h4⟩ := hx (nI j) (k (l.getD j d))
    refine ⟨ρ', _, h1, ev_cmp' (op := .nmem) (ev_var' h3) (ev_sl' (ev_var' h4) ev_k' (ev_var' h2) (slV_ltake (k := j) (by omega) (by rw [List.length_map]; exact hn))) (om_eq ?_), rfl, ev_var' h3⟩
    rw [← List.map_take]; exact hm j hj
  · unfold nub
    rw [List.map_map]
    exact mkL_false (Nat.le_trans (by rw [List.length_map]; exact Nat.le_trans (List.length_filter_le ..) (by rw [List.length_range]; exact Nat.le_refl _)) hn)

noncomputable def unl (a b : List Nat) : Nat := ((a.zip b).filter fun p => !decide (p.1 = p.2)).length
noncomputable abbrev p_unl : PSs := (.cons (.ret (.b1 .len (.comp false (.var 2) (.two 2 3) .zip (.var 0) (.var 1) [2, 3] true (.cmp .ne (.var 2) (.var 3))))) .nil)
theorem src_zip {H : Hp} {a b : List Nat} (ha : asc a = true) (hb : asc b = true) : srcV .zip (.str a) (.str b) H = some ((a.zip b).map fun p => .tup [.str [p.1], .str [p.2]]) := by
  refine (if_pos (by rw [ha, hb]; rfl)).trans (congrArg some ?_)
  unfold zipL chars
  rw [List.zipWith_map, List.zip_eq_zipWith, List.map_zipWith]
theorem asc_mem' {s : List Nat} (h : asc s = true) {x : Nat} (hx : x ∈ s) : asc [x] = true := asc_one (asc_iff.mp h x hx)
theorem unl_run (Φ : Fns) {a b : List Nat} {H : Hp} (ha : asc a = true) (hb : asc b = true) (hl : a.length ≤ 100) : runF Φ p_unl [some (.str a), some (.str b), none, none] H = some (nI (unl a b), H) := by
  have e := ev_cfil (Φ := Φ) (m := false) (elt := .var 2) (c := .cmp .ne (.var 2) (.var 3)) (t := .two 2 3) (cl := [2, 3]) (ρ := [some (.str a), some (.str b), none, none]) (H := H) (a := .var 0) (b := .var 1) (g := fun p : Nat × Nat => .str [p.1]) (p := fun p => !decide (p.1 = p.2)) (ev_var' rfl) (ev_var' rfl) (src_zip ha hb) fun p hp => by
    have hm := List.of_mem_zip (a := p.1) (b := p.2) hp
    refine ⟨_, _, rfl, ev_cmp' (op := .ne) (ev_var' rfl) (ev_var' rfl) (om_eq (eqV_str (H := H) (asc_mem' ha hm.1) (asc_mem' hb hm.2))), ?_, ev_var' rfl⟩
    refine congrArg some (congrArg not ?_)
    rw [decide_eq_decide]
    exact ⟨fun q => (List.cons.inj q).1, fun q => by rw [q]⟩
  have hlen : ((a.zip b).filter fun p => !decide (p.1 = p.2)).length ≤ 100 := Nat.le_trans (List.length_filter_le ..) (by rw [List.length_zip]; omega)
  rw [mkL_false (by rw [List.length_map]; omega)] at e
  have el := ev_b1' (Φ := Φ) (f := .len) e (len_lst (by rw [List.length_map]; omega))
  rw [List.length_map] at el
  exact runF_rt (exs_rt (ex_ret el))

end Mine

-- QA2
set_option autoImplicit false
set_option maxRecDepth 100000
namespace Mine
open PySem

noncomputable def CallsLevG (Φ : Fns) : Prop := ∀ (a b : List Nat) (M : Nat) (H : Hp), asc a = true → asc b = true → a.length ≤ 40 → b.length ≤ 40 → Φ 11 [.str a, .str b, nI M] H = some (nI (levP a b M), H)

theorem set_map {α : Type} {n a : Nat} {F : Nat → α} {y : α} : ((List.range n).map F).set a y = (List.range n).map fun i => if i = a then y else F i := by
  apply List.ext_getElem
  · rw [List.length_set, List.length_map, List.length_map]
  · intro i h1 h2
    rw [List.getElem_set, List.getElem_map, List.getElem_map, List.getElem_range]
    by_cases h : a = i
    · rw [if_pos h, if_pos h.symm]
    · rw [if_neg h, if_neg (Ne.symm h)]
noncomputable def rowM (n : Nat) (g : Nat → Nat) : List V := (List.range n).map fun j => nI (g j)
noncomputable def mkM (n : Nat) (f : Nat → Nat → Nat) : Hp := (List.range n).map (fun i => rowM n (f i)) ++ [(List.range n).map V.cell]
section
variable {n a b i : Nat} {f g : Nat → Nat → Nat}
theorem range_get {α : Type} {F : Nat → α} (h : i < n) : ((List.range n).map F)[i]? = some (F i) := by
  rw [List.getElem?_map, List.getElem?_range h]; rfl
theorem rowM_len {g : Nat → Nat} : (rowM n g).length = n := by unfold rowM; rw [List.length_map, List.length_range]
theorem mkM_row (h : i < n) : (mkM n f)[i]? = some (rowM n (f i)) := by
  unfold mkM
  rw [List.getElem?_append_left (by rw [List.length_map, List.length_range]; exact h), range_get h]
theorem mkM_top : (mkM n f)[n]? = some ((List.range n).map V.cell) := by
  unfold mkM
  rw [List.getElem?_append_right (by rw [List.length_map, List.length_range]; exact Nat.le_refl _), List.length_map, List.length_range, Nat.sub_self]; rfl
theorem rowM_congr {g g' : Nat → Nat} (h : ∀ j, j < n → g j = g' j) : rowM n g = rowM n g' := List.map_congr_left fun j hj => by rw [h j (List.mem_range.mp hj)]
theorem mkM_congr (h : ∀ i j, i < n → j < n → f i j = g i j) : mkM n f = mkM n g := by
  unfold mkM
  rw [List.map_congr_left fun i hi => rowM_congr fun j hj => h i j (List.mem_range.mp hi) hj]
theorem mkM_set {v : Nat} (ha : a < n) : (mkM n f).set a ((rowM n (f a)).set b (nI v)) = mkM n fun i j => if i = a ∧ j = b then v else f i j := by
  unfold mkM
  rw [List.set_append_left _ _ (by rw [List.length_map, List.length_range]; exact ha), set_map]
  congr 1
  apply List.map_congr_left
  intro i _
  by_cases h : i = a
  · rw [if_pos h, h]
    unfold rowM
    rw [set_map]
    apply List.map_congr_left
    intro j _
    by_cases hj : j = b
    · rw [if_pos hj]; exact (congrArg nI (if_pos (And.intro rfl hj))).symm
    · rw [if_neg hj]; exact (congrArg nI (if_neg fun q => hj q.2)).symm
  · rw [if_neg h]
    exact rowM_congr fun j _ => (if_neg fun q => h q.1).symm
end

noncomputable def DD (lv : Nat → Nat → Nat) (i j : Nat) : Nat := if i = j then 0 else if j < i then lv i j else lv j i
noncomputable def fLs (lv : Nat → Nat → Nat) (L s i j : Nat) : Nat := if (i < L ∧ j < L) ∨ (i = L ∧ j < s) ∨ (j = L ∧ i < s) then DD lv i j else 0
theorem if_iff {α : Type} {p q : Prop} [Decidable p] [Decidable q] {x y : α} (h : p ↔ q) : (if p then x else y) = if q then x else y := by
  by_cases hq : q
  · rw [if_pos hq, if_pos (h.mpr hq)]
  · rw [if_neg hq, if_neg fun z => hq (h.mp z)]
theorem fLs_step {lv : Nat → Nat → Nat} {L s i j : Nat} (h : s < L) : (if i = s ∧ j = L then lv L s else if i = L ∧ j = s then lv L s else fLs lv L s i j) = fLs lv L (s + 1) i j := by
  unfold fLs
  by_cases h1 : i = s ∧ j = L
  · obtain ⟨rfl, rfl⟩ := h1
    rw [if_pos ⟨rfl, rfl⟩, if_pos (.inr (.inr ⟨rfl, Nat.lt_succ_self _⟩))]
    exact ((if_neg (Nat.ne_of_lt h)).trans (if_neg (Nat.lt_asymm h))).symm
  · rw [if_neg h1]
    by_cases h2 : i = L ∧ j = s
    · obtain ⟨rfl, rfl⟩ := h2
      rw [if_pos ⟨rfl, rfl⟩, if_pos (.inr (.inl ⟨rfl, Nat.lt_succ_self _⟩))]
      exact ((if_neg (Nat.ne_of_gt h)).trans (if_pos h)).symm
    · rw [if_neg h2]
      refine if_iff ⟨fun q => q.imp_right fun q => q.imp (fun q => ⟨q.1, Nat.lt_succ_of_lt q.2⟩) fun q => ⟨q.1, Nat.lt_succ_of_lt q.2⟩, fun q => q.imp_right fun q => q.imp (fun q => ⟨q.1, ?_⟩) fun q => ⟨q.1, ?_⟩⟩
      · exact Nat.lt_of_le_of_ne (Nat.le_of_lt_succ q.2) fun e => h2 ⟨q.1, e⟩
      · exact Nat.lt_of_le_of_ne (Nat.le_of_lt_succ q.2) fun e => h1 ⟨e, q.1⟩
theorem fLs_next {lv : Nat → Nat → Nat} {L i j : Nat} : fLs lv L L i j = fLs lv (L + 1) 0 i j := by
  unfold fLs
  by_cases h4 : i = L ∧ j = L
  · rw [h4.1, h4.2, show DD lv L L = 0 from if_pos rfl]
    exact (ite_self _).trans (ite_self _).symm
  · refine if_iff ⟨fun q => .inl ?_, fun q => ?_⟩
    · rcases q with q | q | q
      · exact ⟨Nat.lt_succ_of_lt q.1, Nat.lt_succ_of_lt q.2⟩
      · exact ⟨q.1 ▸ Nat.lt_succ_self _, Nat.lt_succ_of_lt q.2⟩
      · exact ⟨Nat.lt_succ_of_lt q.2, q.1 ▸ Nat.lt_succ_self _⟩
    · rcases q with q | q | q
      · rcases Nat.lt_or_eq_of_le (Nat.le_of_lt_succ q.1) with a | a
        · rcases Nat.lt_or_eq_of_le (Nat.le_of_lt_succ q.2) with b | b
          · exact .inl ⟨a, b⟩
          · exact .inr (.inr ⟨b, a⟩)
        · exact .inr (.inl ⟨a, Nat.lt_of_le_of_ne (Nat.le_of_lt_succ q.2) fun b => h4 ⟨a, b⟩⟩)
      · exact absurd q.2 (Nat.not_lt_zero _)
      · exact absurd q.2 (Nat.not_lt_zero _)
theorem fLs_zero {lv : Nat → Nat → Nat} {i j : Nat} : fLs lv 0 0 i j = 0 := if_neg fun q => q.elim (fun q => Nat.not_lt_zero _ q.1) fun q => q.elim (fun q => Nat.not_lt_zero _ q.2) fun q => Nat.not_lt_zero _ q.2
theorem fLs_all {lv : Nat → Nat → Nat} {n i j : Nat} (hi : i < n) (hj : j < n) : fLs lv n 0 i j = DD lv i j := if_pos (.inl ⟨hi, hj⟩)

noncomputable abbrev toldIn (M : Int) : PSs := (.cons (.assign 5 (.call 11 (.cons (.idx (.var 0) (.var 3)) (.cons (.idx (.var 0) (.var 4)) (.cons (.k (.int M)) .nil))))) (.cons (.sub (.idx (.var 1) (.var 3)) (.var 4) (.var 5)) (.cons (.sub (.idx (.var 1) (.var 4)) (.var 3) (.var 5)) .nil)))
noncomputable abbrev toldOut (M : Int) : PSs := (.cons (.loop (.one 4) .plain (.b1 .range (.var 3)) (.k .none) (toldIn M)) .nil)
noncomputable abbrev toldC : PE := .comp true (.rep true (.lst false (.cons (.k (.int 0)) .nil)) (.b1 .len (.var 0))) (.one 2) .plain (.var 0) (.k .none) [2] false (.k .none)
noncomputable abbrev p_toldM (M : Int) : PSs := (.cons (.assign 1 toldC) (.cons (.loop (.one 3) .plain (.b1 .range (.b1 .len (.var 0))) (.k .none) (toldOut M)) (.cons (.ret (.var 1)) .nil)))

theorem turn_gr {Φ : Fns} {elt : PE} {t : Tgt} {ρ ρ' : En} {v r : V} {H H' : Hp} (h1 : bindT t v ρ = some ρ') (h2 : ev Φ elt ρ' H = some (r, H')) : turnF t false (fun ρ H => ev Φ (.k .none) ρ H) (fun ρ H => ev Φ elt ρ H) ρ v H = some ([r], H') :=
  (bd_eq h1).trans (om_eq h2)
theorem mapC_grow {α : Type} {st : Hp → Bool} {f : V → Hp → Option (List V × Hp)} {k : α → V} {R : List V} (hst : ∀ H, st H = true) (hf : ∀ x H, f (k x) H = some ([.cell H.length], H ++ [R])) (l : List α) : ∀ H, mapC st f (l.map k) H = some ((List.range' H.length l.length).map V.cell, H ++ List.replicate l.length R) := by
  induction l with
  | nil => intro H; exact congrArg some (by rw [List.length_nil, List.replicate_zero, List.append_nil]; rfl)
  | cons v l ih =>
    intro H
    refine (bd_eq (hf v H)).trans ((if_pos (hst _)).trans ((bd_eq (ih _)).trans ?_))
    rw [List.length_append, List.length_singleton, List.length_cons, List.range'_succ, List.map_cons, List.replicate_succ, List.append_assoc]; rfl

section
variable {Φ : Fns} (hL : CallsLevG Φ) {M : Nat} {P : List (List Nat)} (hP : ∀ p ∈ P, asc p = true ∧ p.length ≤ 40) (hn : P.length ≤ 2 ^ 10)
noncomputable def lvP (P : List (List Nat)) (M i j : Nat) : Nat := levP (P.getD i []) (P.getD j []) M
include hL hP hn
theorem told_in {x2 x5 : Option V} {L s : Nat} {f : Nat → Nat → Nat} (h1 : L < P.length) (h2 : s < L) :
    ∃ y5, exs Φ (toldIn (M : Int)) [some (.lst (P.map V.str)), some (.cell P.length), x2, some (nI L), some (nI s), x5] (mkM P.length f) =
      some (.nx, [some (.lst (P.map V.str)), some (.cell P.length), x2, some (nI L), some (nI s), y5], mkM P.length fun i j => if i = s ∧ j = L then lvP P M L s else if i = L ∧ j = s then lvP P M L s else f i j) := by
  have h3 : s < P.length := Nat.lt_trans h2 h1
  have hn16 : P.length ≤ 2 ^ 16 := Nat.le_trans hn (by decide)
  have gt : ∀ {i : Nat}, i < P.length → (P.map V.str)[i]? = some (.str (P.getD i [])) ∧ asc (P.getD i []) = true ∧ (P.getD i []).length ≤ 40 := fun {i} hi => by
    have hm : P.getD i [] = P[i] := by rw [List.getD_eq_getElem?_getD, List.getElem?_eq_getElem hi]; rfl
    rw [hm]
    exact ⟨by rw [List.getElem?_map, List.getElem?_eq_getElem hi]; rfl, hP _ (List.getElem_mem hi)⟩
  have e1 := ev_call3 (Φ := Φ) (f := 11) (a := .idx (.var 0) (.var 3)) (b := .idx (.var 0) (.var 4)) (c := .k (.int (M : Int))) (ρ := [some (.lst (P.map V.str)), some (.cell P.length), x2, some (nI L), some (nI s), x5]) (H := mkM P.length f)
    (ev_idx' (ev_var' rfl) (ev_var' rfl) (idx_lst (gt h1).1 (by rw [List.length_map]; exact hn16))) (ev_idx' (ev_var' rfl) (ev_var' rfl) (idx_lst (gt h3).1 (by rw [List.length_map]; exact hn16))) ev_k' (hL _ _ M _ (gt h1).2.1 (gt h3).2.1 (gt h1).2.2 (gt h3).2.2)
  have cel : ∀ {i : Nat} {g : Nat → Nat → Nat}, i < P.length → idxV (mkM P.length g) (.cell P.length) (i : Int) = some (.cell i) := fun {i g} hi => idx_cel mkM_top (range_get hi) (by rw [List.length_map, List.length_range]; exact hn16)
  have ok : ∀ {i : Nat} {g : Nat → Nat}, i < P.length → (0 : Int) ≤ (i : Int) ∧ (i : Int) < (rowM P.length g).length ∧ (rowM P.length g).length ≤ 2 ^ 16 := fun {i g} hi => by rw [rowM_len]; exact ⟨Int.natCast_nonneg _, Int.ofNat_lt.mpr hi, hn16⟩
  refine ⟨some (nI (lvP P M L s)), (exs_nx (ex_assign e1)).trans ((exs_nx (ex_sub (ev_var' rfl) (ev_idx' (ev_var' rfl) (ev_var' rfl) (cel h1)) (ev_var' rfl) (mkM_row h1) (ok h3))).trans ?_)⟩
  rw [Int.toNat_natCast, mkM_set h1]
  refine (exs_nx (ex_sub (ev_var' rfl) (ev_idx' (ev_var' rfl) (ev_var' rfl) (cel h3)) (ev_var' rfl) (mkM_row h3) (ok h1))).trans ?_
  rw [Int.toNat_natCast, mkM_set h3]
  exact exs_nil
theorem told_inner {n0 : Int} {Hs : Hp} {x2 : Option V} {L : Nat} (h1 : L < P.length) : ∀ (k s : Nat) (x4 x5 : Option V), s + k = L →
    ∃ y4 y5, forL (stableV (.rng n0) Hs) (.one 4) (fun ρ H => exs Φ (toldIn (M : Int)) ρ H) ((List.range' s k).map nI) [some (.lst (P.map V.str)), some (.cell P.length), x2, some (nI L), x4, x5] (mkM P.length (fLs (lvP P M) L s)) =
      some (.nx, [some (.lst (P.map V.str)), some (.cell P.length), x2, some (nI L), y4, y5], mkM P.length (fLs (lvP P M) L L)) := by
  intro k
  induction k with
  | zero => intro s x4 x5 h; exact ⟨x4, x5, by rw [show s = L from h]; rfl⟩
  | succ k ih =>
    intro s x4 x5 h
    have hs : s < L := by omega
    obtain ⟨y5, e⟩ := told_in hL (M := M) hP hn (x2 := x2) (x5 := x5) (f := fLs (lvP P M) L s) h1 hs
    obtain ⟨z4, z5, e2⟩ := ih (s + 1) (some (nI s)) y5 (by omega)
    refine ⟨z4, z5, ?_⟩
    rw [mkM_congr fun i j _ _ => fLs_step hs] at e
    rw [List.range'_succ, List.map_cons]
    exact (forL_nx (t := .one 4) (v := nI s) rfl e rfl).trans e2
theorem told_outer {n0 : Int} {Hs : Hp} {x2 : Option V} : ∀ (k L : Nat) (x3 x4 x5 : Option V), L + k = P.length →
    ∃ y3 y4 y5, forL (stableV (.rng n0) Hs) (.one 3) (fun ρ H => exs Φ (toldOut (M : Int)) ρ H) ((List.range' L k).map nI) [some (.lst (P.map V.str)), some (.cell P.length), x2, x3, x4, x5] (mkM P.length (fLs (lvP P M) L 0)) =
      some (.nx, [some (.lst (P.map V.str)), some (.cell P.length), x2, y3, y4, y5], mkM P.length (fLs (lvP P M) P.length 0)) := by
  intro k
  induction k with
  | zero => intro L x3 x4 x5 h; exact ⟨x3, x4, x5, by rw [show L = P.length from h]; rfl⟩
  | succ k ih =>
    intro L x3 x4 x5 h
    have h1 : L < P.length := by omega
    obtain ⟨y4, y5, e⟩ := told_inner hL (M := M) hP hn (n0 := (L : Int)) (Hs := mkM P.length (fLs (lvP P M) L 0)) (x2 := x2) h1 L 0 x4 x5 (Nat.zero_add L)
    obtain ⟨z3, z4, z5, e2⟩ := ih (L + 1) (some (nI L)) y4 y5 (by omega)
    refine ⟨z3, z4, z5, ?_⟩
    rw [List.range'_succ, List.map_cons]
    rw [mkM_congr (f := fLs (lvP P M) L L) fun i j _ _ => fLs_next] at e
    refine (forL_nx (t := .one 3) (v := nI L) rfl ((exs_nx ((ex_loop (ev_b1' (f := .range) (ev_var' rfl) rng_nI) ev_k' (srcRng (by omega))).trans e)).trans exs_nil) rfl).trans e2
theorem told_init {x1 x2 x3 x4 x5 : Option V} : ev Φ toldC [some (.lst (P.map V.str)), x1, x2, x3, x4, x5] [] = some (.cell P.length, mkM P.length (fLs (lvP P M) 0 0)) := by
  have hn16 : P.length ≤ 2 ^ 16 := Nat.le_trans hn (by decide)
  have hf : ∀ (x : List Nat) (H : Hp), turnF (.one 2) false (fun ρ H => ev Φ (.k .none) ρ H) (fun ρ H => ev Φ (.rep true (.lst false (.cons (.k (.int 0)) .nil)) (.b1 .len (.var 0))) ρ H) (clearE [2] [some (.lst (P.map V.str)), x1, x2, x3, x4, x5]) (.str x) H = some ([.cell H.length], H ++ [List.replicate P.length (nI 0)]) := fun x H => by
    refine turn_gr (t := .one 2) (v := .str x) rfl ?_
    refine (obL_eq (ev_lst1 ev_k')).trans ((obI_eq (ev_b1' (f := .len) (ev_var' rfl) (len_lst (by rw [List.length_map]; exact hn16)))).trans ((if_pos ⟨Int.natCast_nonneg _, by rw [List.length_map]; exact Int.ofNat_le.mpr hn, Nat.le_refl _⟩).trans ?_))
    have hr : (List.replicate (P.map V.str).length [V.int 0]).flatten = List.replicate P.length (nI 0) := by
      rw [List.length_map]
      generalize P.length = k
      induction k with
      | zero => rfl
      | succ k ih => rw [List.replicate_succ, List.flatten_cons, ih]; rfl
    rw [Int.toNat_natCast, hr]
    exact mkL_true (by rw [List.length_replicate]; exact hn16)
  refine (ob_eq (ev_var' rfl)).trans ((ob_eq ev_k').trans ((bd_eq (o := srcV .plain (.lst (P.map V.str)) .none []) rfl).trans ((ob_eq (mapC_grow (fun _ => rfl) hf P [])).trans ?_)))
  rw [List.nil_append]
  refine (mkL_true (by rw [List.length_map, List.length_range']; exact hn16)).trans ?_
  rw [List.length_replicate]
  have : (List.replicate P.length (List.replicate P.length (nI 0)) : Hp) = (List.range P.length).map fun i => rowM P.length (fLs (lvP P M) 0 0 i) := by
    have r : ∀ i, rowM P.length (fLs (lvP P M) 0 0 i) = List.replicate P.length (nI 0) := fun i => by
      rw [rowM_congr fun j _ => fLs_zero (lv := lvP P M) (i := i) (j := j)]
      exact List.map_const' .. |>.trans (by rw [List.length_range])
    rw [List.map_congr_left fun i _ => r i]
    exact (List.map_const' ..).trans (by rw [List.length_range]) |>.symm
  unfold mkM
  rw [this, List.range_eq_range']; rfl
theorem told_run : ∃ H', runF Φ (p_toldM (M : Int)) [some (.lst (P.map V.str)), none, none, none, none, none] [] = some (.cell P.length, H') ∧ fz 2 H' (.cell P.length) = some (.lst ((List.range P.length).map fun i => .lst ((List.range P.length).map fun j => nI (DD (lvP P M) i j)))) := by
  obtain ⟨y3, y4, y5, e⟩ := told_outer hL (M := M) hP hn (n0 := (P.length : Int)) (Hs := mkM P.length (fLs (lvP P M) 0 0)) (x2 := none) P.length 0 none none none (Nat.zero_add _)
  refine ⟨mkM P.length (DD (lvP P M)), ?_, ?_⟩
  · rw [mkM_congr (f := fLs (lvP P M) P.length 0) fun i j hi hj => fLs_all hi hj] at e
    have s1 : ∀ {r : PSs}, exs Φ (.cons (.assign 1 toldC) r) [some (.lst (P.map V.str)), none, none, none, none, none] [] = exs Φ r [some (.lst (P.map V.str)), some (.cell P.length), none, none, none, none] (mkM P.length (fLs (lvP P M) 0 0)) := exs_nx (ex_assign (told_init hL (M := M) hP hn))
    have hl : ex Φ (.loop (.one 3) .plain (.b1 .range (.b1 .len (.var 0))) (.k .none) (toldOut M)) [some (.lst (P.map V.str)), some (.cell P.length), none, none, none, none] (mkM P.length (fLs (lvP P M) 0 0)) = some (.nx, [some (.lst (P.map V.str)), some (.cell P.length), none, y3, y4, y5], mkM P.length (DD (lvP P M))) := by
      refine (ex_loop (ev_b1' (f := .range) (r := .rng (P.length : Int)) (ev_b1' (f := .len) (ev_var' rfl) (len_lst (by rw [List.length_map]; omega))) ?_) ev_k' (srcRng (by omega))).trans e
      rw [List.length_map]; rfl
    exact runF_rt (s1.trans ((exs_nx hl).trans (exs_rt (ex_ret (ev_var' rfl)))))
  · refine Eq.trans (show fz 2 (mkM P.length (DD (lvP P M))) (.cell P.length) = fzL (mkM P.length (DD (lvP P M))) (fz 1 (mkM P.length (DD (lvP P M)))) P.length from rfl) ((bd_eq mkM_top).trans (om_eq ?_))
    rw [List.map_map]
    refine allSome_map fun i hi => ?_
    refine Eq.trans (show fz 1 (mkM P.length (DD (lvP P M))) (.cell i) = fzL (mkM P.length (DD (lvP P M))) (fz 0 (mkM P.length (DD (lvP P M)))) i from rfl) ((bd_eq (mkM_row (List.mem_range.mp hi))).trans (om_eq ?_))
    unfold rowM
    rw [List.map_map]
    exact allSome_map fun j _ => rfl
end
end Mine

-- R0
set_option autoImplicit false
set_option maxRecDepth 100000
namespace Mine
open PySem

noncomputable def bitOf (n p : Nat) : Nat := n / 2 ^ p % 2
theorem ev_bit {Φ : Fns} {ρ : En} {H : Hp} {i j n p : Nat} (hi : getE ρ i = some (nI n)) (hj : getE ρ j = some (nI p)) (hn : n ≤ 2 ^ 20) (hp : p ≤ 64) :
    ev Φ (.bin .mod (.bin .fdiv (.var i) (.bin .pow (.k (.int 2)) (.var j))) (.k (.int 2))) ρ H = some (nI (bitOf n p), H) :=
  ev_bin' (op := .mod) (ev_bin' (op := .fdiv) (ev_var' hi) (ev_bin' (op := .pow) ev_k' (ev_var' hj) (pow_nI (a := 2) (by decide) hp)) (fdiv_nI (Nat.ne_of_gt (Nat.pow_pos (by decide))) hn)) ev_k' (mod_nI (b := 2) (by decide))

theorem get_all_gen {Φ : Fns} {H : Hp} {v : V} {n : List Nat} {es : List (List Nat × List Nat)} (hl : listV H v = some (es.map ent)) (h : ∀ p ∈ es, GS p.1) (hn : asc n = true) (hsz : es.length ≤ 2 ^ 16) :
    ev Φ (.comp false (.idx (.var 2) (.k (.int 1))) (.one 2) .plain (.hdrs (.var 0)) (.k .none) [2] true (.cmp .eq (.b1 .lower (.idx (.var 2) (.k (.int 0)))) (.var 1))) [some (.hdr v), some (.str n), none] H =
      some (.lst ((es.filter fun p => decide (low p.1 = n)).map fun p => .str p.2), H) := by
  refine (ev_cfil (k := ent) (g := fun p => .str p.2) (p := fun p => decide (low p.1 = n)) (ev_hdrs' (ev_var' rfl)) ev_k' (src_list hl) fun p hp => ?_).trans (mkL_false (by rw [List.length_map]; exact Nat.le_trans (List.length_filter_le ..) hsz))
  exact ⟨_, _, rfl, ev_cmp' (op := .eq) (ev_b1' (f := .lower) (ev_idx' (ev_var' rfl) ev_k' (show idxV H (ent p) ((0 : Nat) : Int) = some (.str p.1) from rfl)) (low_run (h p hp))) (ev_var' rfl) (eqV_str (h p hp).low.asc hn), rfl, ev_idx' (ev_var' rfl) ev_k' (show idxV H (ent p) ((1 : Nat) : Int) = some (.str p.2) from rfl)⟩

theorem eqV_bool {H : Hp} {a b : Bool} : eqV H (.bool a) (.bool b) = some (a == b) := by
  refine (bd_eq (x := PyData.bool a) rfl).trans ((bd_eq (x := PyData.bool b) rfl).trans (congrArg some ?_))
  cases a <;> cases b <;> rw [PyData.eqv] <;> rfl
theorem map_getD {α β : Type} {d : α} {f : α → β} (l : List α) : (List.range l.length).map (fun i => f (l.getD i d)) = l.map f := by
  apply List.ext_getElem
  · rw [List.length_map, List.length_map, List.length_range]
  · intro i h1 h2
    have hi : i < l.length := by rw [List.length_map] at h2; exact h2
    rw [List.getElem_map, List.getElem_map, List.getElem_range, List.getD_eq_getElem?_getD, List.getElem?_eq_getElem hi]; rfl
theorem flat_one_map {α β : Type} {f : α → β} (l : List α) : (l.map fun p => [f p]).flatten = l.map f := by
  induction l with
  | nil => rfl
  | cons a l ih => rw [List.map_cons, List.flatten_cons, ih]; rfl
theorem any_filter {α : Type} {p : α → Bool} (l : List α) : (l.any p) = !decide (l.filter p = []) := by
  induction l with
  | nil => rfl
  | cons a l ih =>
    rw [List.any_cons, List.filter_cons, ih]
    cases p a <;> simp
noncomputable def matV (n : Nat) (d : Nat → Nat → Nat) : V := .lst ((List.range n).map fun i => .lst ((List.range n).map fun j => nI (d i j)))
theorem ev_cellM {Φ : Fns} {H : Hp} {n : Nat} {d : Nat → Nat → Nat} {ρ : En} {x y z i j : Nat} (hx : getE ρ x = some (matV n d)) (hy : getE ρ y = some (nI i)) (hz : getE ρ z = some (nI j)) (hi : i < n) (hj : j < n) (hn : n ≤ 2 ^ 10) : ev Φ (.idx (.idx (.var x) (.var y)) (.var z)) ρ H = some (nI (d i j), H) := by
  have hn16 : n ≤ 2 ^ 16 := Nat.le_trans hn (by decide)
  exact ev_idx' (ev_idx' (ev_var' hx) (ev_var' hy) (idx_lst (range_get hi) (by rw [List.length_map, List.length_range]; exact hn16))) (ev_var' hz) (idx_lst (range_get hj) (by rw [List.length_map, List.length_range]; exact hn16))
theorem nub_mem {α : Type} [BEq α] {d : α} {l : List α} {x : α} (h : x ∈ nub d l) : x ∈ l := by
  obtain ⟨i, hi, rfl⟩ := List.mem_map.mp h
  have hi := List.mem_range.mp (List.mem_filter.mp hi).1
  rw [List.getD_eq_getElem?_getD, List.getElem?_eq_getElem hi]; exact List.getElem_mem _
theorem nub_le {α : Type} [BEq α] {d : α} {l : List α} : (nub d l).length ≤ l.length := by
  unfold nub
  rw [List.length_map]; exact Nat.le_trans (List.length_filter_le ..) (by rw [List.length_range]; exact Nat.le_refl _)
theorem cast_dec (a b : Nat) : decide ((a : Int) = (b : Int)) = decide (a = b) := by rw [decide_eq_decide]; omega

theorem ev_cmap2 {α β : Type} {Φ : Fns} {elt a1 a2 : PE} {t1 t2 : Tgt} {cl : List Nat} {ρ : En} {H : Hp} {x : V} {xs : List α} {k : α → V} {ys : α → List β} {k2 : β → V} {g : α → β → V}
    (h1 : ev Φ a1 ρ H = some (x, H)) (hs : srcV .plain x .none H = some (xs.map k))
    (hf : ∀ v ∈ xs, ∃ ρ' y, bindT t1 (k v) (clearE cl ρ) = some ρ' ∧ ev Φ a2 ρ' H = some (y, H) ∧ srcV .plain y .none H = some ((ys v).map k2) ∧ ∀ u ∈ ys v, ∃ ρ'', bindT t2 (k2 u) ρ' = some ρ'' ∧ ev Φ elt ρ'' H = some (g v u, H)) (hl : (xs.flatMap fun v => (ys v).map (g v)).length ≤ 2 ^ 16) :
    ev Φ (.comp2 elt t1 a1 t2 a2 cl) ρ H = some (.lst (xs.flatMap fun v => (ys v).map (g v)), H) := by
  refine (ob_eq h1).trans ((bd_eq hs).trans ((ob_eq (mapC_maps (g := fun v => (ys v).map (g v)) (stable_of_src hs) xs fun v hv => ?_)).trans (mkL_false hl)))
  obtain ⟨ρ', y, e1, e2, e3, e4⟩ := hf v hv
  refine (bd_eq e1).trans ((ob_eq e2).trans ((bd_eq e3).trans ((mapC_maps (g := fun u => [g v u]) (stable_of_src e3) (ys v) fun u hu => ?_).trans (by rw [flat_one']))))
  obtain ⟨ρ'', e5, e6⟩ := e4 u hu
  exact (bd_eq e5).trans (om_eq e6)
end Mine

-- P02
set_option autoImplicit false
namespace Mine
namespace L02
open PySem

noncomputable def N_get_all : List Str := ["self", "name", "kv"]
noncomputable def p_get_all : PSs := (.cons (.assign 1 (.call 0 (.cons (.var 0) (.cons (.b1 .lower (.var 1)) (.cons (.k (.bool true)) .nil))))) (.cons (.ret (.comp false (.idx (.var 2) (.k (.int 1))) (.one 2) .plain (.hdrs (.var 0)) (.k .none) [2] true (.cmp .eq (.b1 .lower (.idx (.var 2) (.k (.int 0)))) (.var 1)))) .nil))
noncomputable def N_add1 : List Str := ["self", "_name", "_value", "_params", "parts", "k", "v"]
noncomputable def p_add1 : PSs := (.cons (.assign 4 (.lst true .nil)) (.cons (.ifs (.isNone true (.var 2)) (.cons (.assign 2 (.call 0 (.cons (.var 0) (.cons (.var 2) (.cons (.k (.bool false)) .nil))))) (.cons (.append (.var 4) (.var 2)) .nil)) .nil) .nil))
noncomputable def p_add2 : PSs := (.cons (.append (.hdrs (.var 0)) (.tup (.cons (.call 0 (.cons (.var 0) (.cons (.var 1) (.cons (.k (.bool true)) .nil)))) (.cons (.b2 .join (.k (.str [59, 32])) (.var 4)) .nil)))) .nil)
noncomputable def N_items : List Str := ["self"]
noncomputable def p_items : PSs := (.cons (.ret (.sl (.hdrs (.var 0)) (.k .none) (.k .none))) .nil)
noncomputable def N_spelled : List Str := ["number", "places", "place"]
noncomputable def p_spelled : PSs := (.cons (.ret (.b2 .join (.k (.str [])) (.comp false (.idx (.k (.str [97, 65, 98, 66, 99, 67, 100, 68])) (.bin .add (.bin .mul (.k (.int 2)) (.var 2)) (.bin .mod (.bin .fdiv (.var 0) (.bin .pow (.k (.int 2)) (.var 2))) (.k (.int 2))))) (.one 2) .plain (.var 1) (.k .none) [2] false (.k .none)))) .nil)
noncomputable def N_unlike : List Str := ["one", "other", "sign", "met"]
noncomputable def p_unlike : PSs := (.cons (.ret (.b1 .len (.comp false (.var 2) (.two 2 3) .zip (.var 0) (.var 1) [2, 3] true (.cmp .ne (.var 2) (.var 3))))) .nil)
noncomputable def N_told : List Str := ["words", "told", "word", "late", "soon", "far"]
noncomputable def p_told : PSs := (.cons (.assign 1 (.comp true (.rep true (.lst false (.cons (.k (.int 0)) .nil)) (.b1 .len (.var 0))) (.one 2) .plain (.var 0) (.k .none) [2] false (.k .none))) (.cons (.loop (.one 3) .plain (.b1 .range (.b1 .len (.var 0))) (.k .none) (.cons (.loop (.one 4) .plain (.b1 .range (.var 3)) (.k .none) (.cons (.assign 5 (.call 11 (.cons (.idx (.var 0) (.var 3)) (.cons (.idx (.var 0) (.var 4)) (.cons (.k (.int 4)) .nil))))) (.cons (.sub (.idx (.var 1) (.var 3)) (.var 4) (.var 5)) (.cons (.sub (.idx (.var 1) (.var 4)) (.var 3) (.var 5)) .nil)))) .nil)) (.cons (.ret (.var 1)) .nil)))
noncomputable def N_between : List Str := ["told", "start", "step", "end"]
noncomputable def p_between : PSs := (.cons (.ret (.cmp .eq (.bin .add (.idx (.idx (.var 0) (.var 1)) (.var 2)) (.idx (.idx (.var 0) (.var 2)) (.var 3))) (.idx (.idx (.var 0) (.var 1)) (.var 3)))) .nil)
noncomputable def N_middles : List Str := ["told", "places", "third", "second", "first", "inside", "step"]
noncomputable def p_middles : PSs := (.cons (.assign 1 (.b1 .range (.b1 .len (.var 0)))) (.cons (.loop (.one 2) .plain (.var 1) (.k .none) (.cons (.loop (.one 3) .plain (.b1 .range (.var 2)) (.k .none) (.cons (.loop (.one 4) .plain (.b1 .range (.var 3)) (.k .none) (.cons (.assign 5 (.comp false (.var 6) (.one 6) .plain (.var 1) (.k .none) [6] true (.call 17 (.cons (.var 0) (.cons (.var 4) (.cons (.var 6) (.cons (.var 3) .nil))))))) (.cons (.assign 5 (.comp false (.var 6) (.one 6) .plain (.var 5) (.k .none) [6] true (.call 17 (.cons (.var 0) (.cons (.var 4) (.cons (.var 6) (.cons (.var 2) .nil))))))) (.cons (.ifs (.cmp .eq (.comp false (.var 6) (.one 6) .plain (.var 5) (.k .none) [6] true (.call 17 (.cons (.var 0) (.cons (.var 3) (.cons (.var 6) (.cons (.var 2) .nil)))))) (.lst false .nil)) (.cons (.ret (.k (.bool false))) .nil) .nil) .nil)))) .nil)) .nil)) (.cons (.ret (.k (.bool true))) .nil)))
noncomputable def N_law : List Str := ["script", "numbers", "cell", "drawn", "number", "family", "place", "member", "twos", "late", "soon", "rows", "two", "table", "row", "text", "words", "told", "other", "one", "first", "last", "given", "allowed", "strange"]
noncomputable def p_law : PSs := (.cons (.assign 1 (.sl (.bin .add (.comp false (.bin .mod (.b1 .int (.var 2)) (.bin .pow (.k (.int 10)) (.k (.int 6)))) (.one 2) .plain (.sl (.var 0) (.k .none) (.k (.int 5))) (.k .none) [2] false (.k .none)) (.lst false (.cons (.k (.int 1)) (.cons (.k (.int 2)) (.cons (.k (.int 4)) (.cons (.k (.int 6)) (.cons (.k (.int 12)) .nil))))))) (.k .none) (.k (.int 5)))) (.cons (.assign 3 (.comp false (.bin .mod (.var 4) (.k (.int 16))) (.one 4) .plain (.var 1) (.k .none) [4] false (.k .none))) (.cons (.assign 5 (.comp false (.var 7) (.two 6 7) .enum (.var 3) (.k .none) [6, 7] true (.cmp .nmem (.var 7) (.sl (.var 3) (.k .none) (.var 6))))) (.cons (.assign 8 (.comp2 (.tup (.cons (.var 10) (.cons (.var 9) .nil))) (.one 9) (.b1 .range (.k (.int 4))) (.one 10) (.b1 .range (.var 9)) [9, 10])) (.cons (.assign 11 (.comp false (.comp false (.call 14 (.cons (.var 7) (.cons (.var 12) .nil))) (.one 12) .plain (.var 8) (.k .none) [12] false (.k .none)) (.one 7) .plain (.var 5) (.k .none) [7] false (.k .none))) (.cons (.assign 13 (.call 12 .nil)) (.cons (.loop (.one 14) .plain (.var 11) (.k .none) (.cons (.loop (.one 15) .plain (.var 14) (.k .none) (.cons (.expr (.call 6 (.cons (.var 13) (.cons (.var 15) (.cons (.var 15) .nil))))) .nil)) .nil)) (.cons (.ifs (.cmp .ne (.call 7 (.cons (.var 13) .nil)) (.comp2 (.tup (.cons (.var 15) (.cons (.var 15) .nil))) (.one 14) (.var 11) (.one 15) (.var 14) [14, 15])) (.cons (.ret (.k (.bool false))) .nil) .nil) (.cons (.assign 16 (.comp false (.call 14 (.cons (.var 7) (.cons (.b1 .range (.k (.int 4))) .nil))) (.one 7) .plain (.var 5) (.k .none) [7] false (.k .none))) (.cons (.assign 17 (.call 16 (.cons (.var 16) .nil))) (.cons (.ifs (.cmp .ne (.var 17) (.comp false (.comp false (.call 15 (.cons (.var 19) (.cons (.var 18) .nil))) (.one 18) .plain (.var 16) (.k .none) [18] false (.k .none)) (.one 19) .plain (.var 16) (.k .none) [19] false (.k .none))) (.cons (.ret (.k (.bool false))) .nil) .nil) (.cons (.tup 20 21 (.tup (.cons (.idx (.var 16) (.k (.int 0))) (.cons (.idx (.var 16) (.neg (.k (.int 1)))) .nil)))) (.cons (.ifs (.cmp .ne (.call 11 (.cons (.sl (.var 20) (.k (.int 1)) (.k .none)) (.cons (.sl (.var 21) (.k .none) (.k (.int 3))) (.cons (.k (.int 6)) .nil)))) (.bin .add (.k (.int 4)) (.call 15 (.cons (.sl (.var 20) (.k (.int 1)) (.k (.int 3))) (.cons (.sl (.var 21) (.k (.int 1)) (.k (.int 3))) .nil))))) (.cons (.ret (.k (.bool false))) .nil) .nil) (.cons (.ifs (.cmp .ne (.call 11 (.cons (.var 20) (.cons (.var 21) (.cons (.k (.int 0)) .nil)))) (.ite (.cmp .gt (.b1 .len (.var 16)) (.k (.int 1))) (.k (.int 1)) (.k (.int 0)))) (.cons (.ret (.k (.bool false))) .nil) .nil) (.cons (.assign 22 (.comp false (.call 5 (.cons (.var 13) (.cons (.call 14 (.cons (.bin .mul (.k (.int 15)) (.bin .mod (.b1 .sum (.var 1)) (.k (.int 2)))) (.cons (.var 12) .nil))) .nil))) (.one 12) .plain (.var 8) (.k .none) [12] false (.k .none))) (.cons (.ifs (.cmp .ne (.var 22) (.comp false (.comp false (.idx (.var 14) (.var 6)) (.one 14) .plain (.var 11) (.k .none) [14] false (.k .none)) (.one 6) .plain (.b1 .range (.b1 .len (.var 8))) (.k .none) [6] false (.k .none))) (.cons (.ret (.k (.bool false))) .nil) .nil) (.cons (.assign 23 (.lst true .nil)) (.cons (.loop (.one 4) .plain (.b1 .range (.k (.int 16))) (.k .none) (.cons (.assign 24 (.comp false (.var 12) (.two 12 14) .zip (.var 8) (.var 22) [12, 14] true (.cmp .nmem (.call 14 (.cons (.var 4) (.cons (.var 12) .nil))) (.var 14)))) (.cons (.aug 23 .add (.ite (.cmp .eq (.var 24) (.lst false .nil)) (.lst false (.cons (.var 4) .nil)) (.lst false .nil))) .nil))) (.cons (.ret (.cmp .eq (.call 18 (.cons (.var 17) .nil)) (.cmp .eq (.var 23) (.b1 .sorted (.var 5))))) .nil)))))))))))))))))))

end L02
end Mine

-- R1
set_option autoImplicit false
set_option maxRecDepth 100000
namespace Mine
open PySem
namespace L02
noncomputable def ltr (number p : Nat) : Nat := ([97, 65, 98, 66, 99, 67, 100, 68] : List Nat).getD (2 * p + bitOf number p) 0
noncomputable def spS (number : Nat) (ps : List Nat) : List Nat := ps.map (ltr number)
theorem spelled_run (Φ : Fns) {H : Hp} {number : Nat} {x : V} {ps : List Nat} (hn : number ≤ 2 ^ 20) (hs : srcV .plain x .none H = some (ps.map nI)) (hp : ∀ p ∈ ps, p < 4) (hl : ps.length ≤ 4) : runF Φ p_spelled [some (nI number), some x, none] H = some (.str (spS number ps), H) := by
  have hb : ∀ n p, bitOf n p < 2 := fun n p => Nat.mod_lt _ (by decide)
  have e2 := ev_cmap (Φ := Φ) (m := false) (elt := .idx (.k (.str [97, 65, 98, 66, 99, 67, 100, 68])) (.bin .add (.bin .mul (.k (.int 2)) (.var 2)) (.bin .mod (.bin .fdiv (.var 0) (.bin .pow (.k (.int 2)) (.var 2))) (.k (.int 2))))) (t := .one 2) (gn := .plain) (cl := [2]) (ρ := [some (nI number), some x, none]) (H := H) (a := .var 1) (b := .k .none) (xs := ps) (k := nI) (g := fun p => .str [ltr number p])
    (ev_var' rfl) ev_k' hs fun p h => by
    have := hp p h
    exact ⟨_, rfl, ev_idx' ev_k' (ev_bin' (op := .add) (ev_bin' (op := .mul) ev_k' (ev_var' rfl) (mul_nI (a := 2) (by decide) (by omega))) (ev_bit (n := number) (p := p) rfl rfl hn (by omega)) (add_nI _ _)) (idxV_nat (by have := hb number p; show 2 * p + bitOf number p < 8; omega) (by decide))⟩
  rw [mkL_false (by rw [List.length_map]; omega), show (ps.map fun p => V.str [ltr number p]) = (ps.map fun p => [ltr number p]).map V.str from (List.map_map ..).symm] at e2
  have e3 := ev_b2' (Φ := Φ) (f := .join) (a := .k (.str [])) ev_k' e2 (join_run (by rw [List.length_map]; omega) fun s hs => by obtain ⟨p, _, rfl⟩ := List.mem_map.mp hs; exact Nat.le_of_ble_eq_true rfl)
  rw [flat_one_map] at e3
  exact runF_rt (exs_rt (ex_ret e3))

theorem get_all_run {Φ : Fns} (hc : CallsConv Φ) {H : Hp} {v : V} {n : List Nat} {es : List (List Nat × List Nat)} (hl : listV H v = some (es.map ent)) (h : ∀ p ∈ es, GS p.1) (hn : GS n) (hsz : es.length ≤ 2 ^ 16) :
    runF Φ p_get_all [some (.hdr v), some (.str n), none] H = some (.lst ((es.filter fun p => decide (low p.1 = low n)).map fun p => .str p.2), H) :=
  runF_rt ((exs_nx (ex_assign (ev_call3 (Φ := Φ) (a := .var 0) (b := .b1 .lower (.var 1)) (c := .k (.bool true)) (ρ := [some (.hdr v), some (.str n), none]) (H := H) (ev_var' rfl) (ev_b1' (ev_var' rfl) (low_run hn)) ev_k' (hc v (low n) true H hn.low)))).trans (exs_rt (ex_ret (get_all_gen hl h hn.low.asc hsz))))
theorem items_run (Φ : Fns) {n : Nat} {H : Hp} {l : List V} (hl : H[n]? = some l) (hn : l.length ≤ 2 ^ 16) : runF Φ p_items [some (.hdr (.cell n))] H = some (.lst l, H) := by
  have e : slV H (.cell n) .none .none = some (.lst l) := by
    unfold slV
    have hc : cut l none none = l := by simp [cut, clamp]
    show (match H[n]? with | some l => _ | none => none) = _
    rw [hl]
    exact (if_pos hn).trans (by rw [hc])
  exact runF_rt (exs_rt (ex_ret (ev_sl' (ev_hdrs' (ev_var' rfl)) ev_k' ev_k' e)))

theorem add_run {Φ : Fns} (hc : CallsConv Φ) {L : List V} {G : Hp} {n v : List Nat} (hn : GS n) (hv : GS v) (hl : L.length ≤ 2 ^ 16) :
    addF Φ 7 p_add1 p_add2 [.hdr (.cell 0), .str n, .str v] (L :: G) = some (.none, (L ++ [ent (n, v)]) :: (G ++ [[.str v]])) := by
  have key : ∀ u, addU Φ 7 p_add1 p_add2 [.hdr (.cell 0), .str n, .str v] (L :: G) u = some (.none, (L ++ [ent (n, v)]) :: (G ++ [[.str v]])) := fun u => by
    have e1 : exs Φ p_add1 [some (.hdr (.cell 0)), some (.str n), some (.str v), some u, none, none, none] (L :: G) = some (.nx, [some (.hdr (.cell 0)), some (.str n), some (.str v), some u, some (.cell (G.length + 1)), none, none], L :: (G ++ [[.str v]])) := by
      refine (exs_nx (ex_assign ((ev_lst' evs_nil').trans (mkL_true (by decide))))).trans ((exs_nx ((ex_ifs_t (ev_isNone0 (ev_var' rfl)) rfl).trans ?_)).trans exs_nil)
      refine (exs_nx (ex_assign (ev_call3 (ev_var' rfl) (ev_var' rfl) ev_k' (hc (.cell 0) v false _ hv)))).trans ((exs_nx (ex_append (n := G.length + 1) (l := []) (ev_var' rfl) (ev_var' rfl) ?_ (by decide))).trans ?_)
      · show ((L :: G) ++ [[]])[G.length + 1]? = some []
        rw [List.getElem?_append_right (by simp)]; simp
      · refine exs_nil.trans (congrArg (fun h => some (Fl.nx, _, h)) ?_)
        show ((L :: G) ++ [[]]).set (G.length + 1) [V.str v] = _
        rw [List.set_append_right _ _ (by simp)]; simp
    have e2 : exs Φ p_add2 [some (.hdr (.cell 0)), some (.str n), some (.str v), some u, some (.cell (G.length + 1)), none, none] (L :: (G ++ [[.str v]])) = some (.nx, [some (.hdr (.cell 0)), some (.str n), some (.str v), some u, some (.cell (G.length + 1)), none, none], (L ++ [ent (n, v)]) :: (G ++ [[.str v]])) := by
      have hj : b2V (L :: (G ++ [[.str v]])) .join (.str [59, 32]) (.cell (G.length + 1)) = some (.str v) := by
        have hg : (L :: (G ++ [[V.str v]]))[G.length + 1]? = some [.str v] := by simp
        have ht : textsV (L :: (G ++ [[V.str v]])) (.cell (G.length + 1)) = some [v] := (bd_eq (show listV _ (.cell (G.length + 1)) = _ from hg)).trans rfl
        refine (bd_eq ht).trans ?_
        have h4 := hv.2
        refine (if_pos ⟨Nat.le_of_ble_eq_true rfl, ?_, by decide⟩).trans rfl
        rw [List.all_cons, List.all_nil, Bool.and_true, decide_eq_true h4]
      exact (exs_nx (ex_append (ev_hdrs' (ev_var' rfl)) (ev_tup2 (ev_call3 (ev_var' rfl) (ev_var' rfl) ev_k' (hc (.cell 0) n true _ hn)) (ev_b2' (f := .join) ev_k' (ev_var' rfl) hj)) rfl hl)).trans exs_nil
    refine (bd_eq (x := ([some (.hdr (.cell 0)), some (.str n), some (.str v), some u, some (.cell (G.length + 1)), none, none], L :: (G ++ [[.str v]]))) ((congrArg nxO e1).trans rfl)).trans ?_
    refine (@if_pos _ (Classical.propDecidable _) rfl _ _ _).trans ?_
    exact om_eq e2
  refine (if_pos ⟨rfl, rfl⟩).trans ((bd_eq (key (.pat 2))).trans ?_)
  exact @if_pos _ (Classical.propDecidable _) (fun k => key (.pat k)) _ _ _

noncomputable def btw (d : Nat → Nat → Nat) (a s e : Nat) : Bool := decide (d a s + d s e = d a e)
section
variable {Φ : Fns} {H : Hp} {n : Nat} {d : Nat → Nat → Nat}
theorem between_run {a s e : Nat} (ha : a < n) (hs : s < n) (he : e < n) (hn : n ≤ 2 ^ 10) : runF Φ p_between [some (matV n d), some (nI a), some (nI s), some (nI e)] H = some (.bool (btw d a s e), H) :=
  runF_rt (exs_rt (ex_ret ((ev_cmp' (op := .eq) (ev_bin' (op := .add) (ev_cellM rfl rfl rfl ha hs hn) (ev_cellM rfl rfl rfl hs he hn) (add_nI _ _)) (ev_cellM rfl rfl rfl ha he hn) (eqV_int (H := H))).trans (by rw [cast_dec]; rfl))))

noncomputable def CallsBtw (Φ : Fns) : Prop := ∀ (n : Nat) (d : Nat → Nat → Nat) (a s e : Nat) (H : Hp), a < n → s < n → e < n → n ≤ 2 ^ 10 → Φ 17 [matV n d, nI a, nI s, nI e] H = some (.bool (btw d a s e), H)
noncomputable def midOk (n : Nat) (d : Nat → Nat → Nat) (t s f : Nat) : Bool := (List.range' 0 n).any fun x => btw d f x s && btw d f x t && btw d s x t
noncomputable def midB (n : Nat) (d : Nat → Nat → Nat) : Bool := (List.range' 0 n).all fun t => (List.range' 0 t).all fun s => (List.range' 0 s).all fun f => midOk n d t s f
noncomputable abbrev midIn : PSs := (.cons (.assign 5 (.comp false (.var 6) (.one 6) .plain (.var 1) (.k .none) [6] true (.call 17 (.cons (.var 0) (.cons (.var 4) (.cons (.var 6) (.cons (.var 3) .nil))))))) (.cons (.assign 5 (.comp false (.var 6) (.one 6) .plain (.var 5) (.k .none) [6] true (.call 17 (.cons (.var 0) (.cons (.var 4) (.cons (.var 6) (.cons (.var 2) .nil))))))) (.cons (.ifs (.cmp .eq (.comp false (.var 6) (.one 6) .plain (.var 5) (.k .none) [6] true (.call 17 (.cons (.var 0) (.cons (.var 3) (.cons (.var 6) (.cons (.var 2) .nil)))))) (.lst false .nil)) (.cons (.ret (.k (.bool false))) .nil) .nil) .nil)))
noncomputable abbrev mE (n : Nat) (d : Nat → Nat → Nat) (x2 x3 x4 x5 x6 : Option V) : En := [some (matV n d), some (.rng (n : Int)), x2, x3, x4, x5, x6]
theorem ev_call4 {f : Nat} {a b c e : PE} {x y z u r : V} {ρ : En} {H H1 H2 H3 H4 H5 : Hp} (ha : ev Φ a ρ H = some (x, H1)) (hb : ev Φ b ρ H1 = some (y, H2)) (hc : ev Φ c ρ H2 = some (z, H3)) (hd : ev Φ e ρ H3 = some (u, H4)) (h : Φ f [x, y, z, u] H4 = some (r, H5)) : ev Φ (.call f (.cons a (.cons b (.cons c (.cons e .nil))))) ρ H = some (r, H5) :=
  (ev_call' (evs_cons' ha (evs_cons' hb (evs_cons' hc (evs_cons' hd evs_nil'))))).trans h
theorem ev_ins (hb : CallsBtw Φ) {ρ : En} {x i j : Nat} {a e : Nat} {v : V} {l : List Nat} (hx : getE ρ x = some v) (hs : srcV .plain v .none H = some (l.map nI)) (hl : ∀ p ∈ l, p < n) (hll : l.length ≤ 2 ^ 16) (hn : n ≤ 2 ^ 10) (ha : a < n) (he : e < n)
    (hρ : ∀ p, ∃ ρ', bindT (.one 6) (nI p) (clearE [6] ρ) = some ρ' ∧ getE ρ' 0 = some (matV n d) ∧ getE ρ' i = some (nI a) ∧ getE ρ' 6 = some (nI p) ∧ getE ρ' j = some (nI e)) :
    ev Φ (.comp false (.var 6) (.one 6) .plain (.var x) (.k .none) [6] true (.call 17 (.cons (.var 0) (.cons (.var i) (.cons (.var 6) (.cons (.var j) .nil)))))) ρ H = some (.lst ((l.filter fun p => btw d a p e).map nI), H) := by
  refine (ev_cfil (k := nI) (g := nI) (p := fun p => btw d a p e) (ev_var' hx) ev_k' hs fun p hp => ?_).trans (mkL_false (by rw [List.length_map]; exact Nat.le_trans (List.length_filter_le ..) hll))
  obtain ⟨ρ', h1, h2, h3, h4, h5⟩ := hρ p
  exact ⟨ρ', _, h1, ev_call4 (ev_var' h2) (ev_var' h3) (ev_var' h4) (ev_var' h5) (hb n d a p e H ha (hl p hp) he hn), rfl, ev_var' h4⟩
theorem mid_in (hb : CallsBtw Φ) {x5 x6 : Option V} {t s f : Nat} (ht : t < n) (hs : s < n) (hf : f < n) (hn : n ≤ 2 ^ 10) :
    ∃ y5, exs Φ midIn (mE n d (some (nI t)) (some (nI s)) (some (nI f)) x5 x6) H = some (if midOk n d t s f then .nx else .rt (.bool false), mE n d (some (nI t)) (some (nI s)) (some (nI f)) y5 x6, H) := by
  have hr : ∀ p ∈ List.range' 0 n, p < n := fun p hp => by rw [List.mem_range'_1] at hp; omega
  have l0 : (List.range' 0 n).length ≤ 2 ^ 16 := by rw [List.length_range']; omega
  have e1 := ev_ins (H := H) (d := d) hb (ρ := mE n d (some (nI t)) (some (nI s)) (some (nI f)) x5 x6) (x := 1) (i := 4) (j := 3) (a := f) (e := s) (l := List.range' 0 n) rfl (srcRng (by omega)) hr l0 hn hf hs fun p => ⟨_, rfl, rfl, rfl, rfl, rfl⟩
  have hr1 : ∀ p ∈ (List.range' 0 n).filter fun p => btw d f p s, p < n := fun p hp => hr p (List.mem_filter.mp hp).1
  have l1 := Nat.le_trans (List.length_filter_le (fun p => btw d f p s) (List.range' 0 n)) l0
  have e2 := ev_ins (H := H) (d := d) hb (ρ := mE n d (some (nI t)) (some (nI s)) (some (nI f)) (some (.lst (((List.range' 0 n).filter fun p => btw d f p s).map nI))) x6) (x := 5) (i := 4) (j := 2) (a := f) (e := t) rfl srcStrs hr1 l1 hn hf ht fun p => ⟨_, rfl, rfl, rfl, rfl, rfl⟩
  have hr2 : ∀ p ∈ ((List.range' 0 n).filter fun p => btw d f p s).filter fun p => btw d f p t, p < n := fun p hp => hr1 p (List.mem_filter.mp hp).1
  have l2 := Nat.le_trans (List.length_filter_le (fun p => btw d f p t) ((List.range' 0 n).filter fun p => btw d f p s)) l1
  have e3 := ev_ins (H := H) (d := d) hb (ρ := mE n d (some (nI t)) (some (nI s)) (some (nI f)) (some (.lst ((((List.range' 0 n).filter fun p => btw d f p s).filter fun p => btw d f p t).map nI))) x6) (x := 5) (i := 3) (j := 2) (a := s) (e := t) rfl srcStrs hr2 l2 hn hs ht fun p => ⟨_, rfl, rfl, rfl, rfl, rfl⟩
  have hm : midOk n d t s f = !decide (((((List.range' 0 n).filter fun p => btw d f p s).filter fun p => btw d f p t).filter fun p => btw d s p t) = []) := by
    unfold midOk
    rw [any_filter, List.filter_filter, List.filter_filter]
    congr 3
    apply List.filter_congr
    intro p _
    cases btw d f p s <;> cases btw d f p t <;> cases btw d s p t <;> rfl
  rw [hm]
  generalize (((List.range' 0 n).filter fun p => btw d f p s).filter fun p => btw d f p t) = K at *
  have c3 := ev_cmp' (Φ := Φ) (op := .eq) e3 (b := .lst false .nil) ((ev_lst' evs_nil').trans rfl)
    (show eqV H _ _ = some (decide ((K.filter fun p => btw d s p t) = [])) from (bd_eq toPy_nats).trans ((bd_eq (toPy_nats (xs := []))).trans (congrArg some (by rw [PyData.eqv, eqvAll_nats]))))
  refine ⟨some (.lst (K.map nI)), (exs_nx (ex_assign e1)).trans ((exs_nx (ex_assign e2)).trans ?_)⟩
  by_cases hf : (K.filter fun p => btw d s p t) = []
  · rw [decide_eq_true hf] at c3 ⊢
    exact exs_rt ((ex_ifs_t c3 rfl).trans (exs_rt (ex_ret ev_k')))
  · rw [decide_eq_false hf] at c3 ⊢
    exact (exs_nx ((ex_ifs_f c3 rfl).trans exs_nil)).trans exs_nil
noncomputable abbrev mid2 : PSs := (.cons (.loop (.one 4) .plain (.b1 .range (.var 3)) (.k .none) midIn) .nil)
noncomputable abbrev mid1 : PSs := (.cons (.loop (.one 3) .plain (.b1 .range (.var 2)) (.k .none) mid2) .nil)
theorem wrap {s : PS} {b : Bool} {ρ ρ1 : En} (h : ex Φ s ρ H = some (if b then .nx else .rt (.bool false), ρ1, H)) : exs Φ (.cons s .nil) ρ H = some (if b then .nx else .rt (.bool false), ρ1, H) := by
  cases b with
  | true => exact (exs_nx h).trans exs_nil
  | false => exact exs_rt h
theorem mid_2 (hb : CallsBtw Φ) {x4 x5 x6 : Option V} {t s : Nat} (ht : t < n) (hs : s < n) (hn : n ≤ 2 ^ 10) :
    ∃ y4 y5, exs Φ mid2 (mE n d (some (nI t)) (some (nI s)) x4 x5 x6) H = some (if (List.range' 0 s).all (fun f => midOk n d t s f) then .nx else .rt (.bool false), mE n d (some (nI t)) (some (nI s)) y4 y5 x6, H) := by
  obtain ⟨ρ1, h1, y4, y5, rfl⟩ := forL_chk (H := H) (t := .one 4) (k := nI) (st := stableV (.rng (s : Int)) H) (body := fun ρ H => exs Φ midIn ρ H) (C := fun ρ => ∃ x4 x5, ρ = mE n d (some (nI t)) (some (nI s)) x4 x5 x6) (good := fun f => midOk n d t s f) rfl (List.range' 0 s) (fun f hf ρ hc => by
    obtain ⟨x4, x5, rfl⟩ := hc
    rw [List.mem_range'_1] at hf
    obtain ⟨y5, e⟩ := mid_in (H := H) (d := d) hb (x5 := x5) (x6 := x6) ht hs (f := f) (by omega) hn
    exact ⟨_, _, rfl, e, _, _, rfl⟩) _ ⟨x4, x5, rfl⟩
  exact ⟨y4, y5, wrap ((ex_loop (ev_b1' (f := .range) (ev_var' rfl) rng_nI) ev_k' (srcRng (by omega))).trans h1)⟩
theorem mid_1 (hb : CallsBtw Φ) {x3 x4 x5 x6 : Option V} {t : Nat} (ht : t < n) (hn : n ≤ 2 ^ 10) :
    ∃ y3 y4 y5, exs Φ mid1 (mE n d (some (nI t)) x3 x4 x5 x6) H = some (if (List.range' 0 t).all (fun s => (List.range' 0 s).all fun f => midOk n d t s f) then .nx else .rt (.bool false), mE n d (some (nI t)) y3 y4 y5 x6, H) := by
  obtain ⟨ρ1, h1, y3, y4, y5, rfl⟩ := forL_chk (H := H) (t := .one 3) (k := nI) (st := stableV (.rng (t : Int)) H) (body := fun ρ H => exs Φ mid2 ρ H) (C := fun ρ => ∃ x3 x4 x5, ρ = mE n d (some (nI t)) x3 x4 x5 x6) (good := fun s => (List.range' 0 s).all fun f => midOk n d t s f) rfl (List.range' 0 t) (fun s hs ρ hc => by
    obtain ⟨x3, x4, x5, rfl⟩ := hc
    rw [List.mem_range'_1] at hs
    obtain ⟨y4, y5, e⟩ := mid_2 (H := H) (d := d) hb (x4 := x4) (x5 := x5) (x6 := x6) ht (s := s) (by omega) hn
    exact ⟨_, _, rfl, e, _, _, _, rfl⟩) _ ⟨x3, x4, x5, rfl⟩
  exact ⟨y3, y4, y5, wrap ((ex_loop (ev_b1' (f := .range) (ev_var' rfl) rng_nI) ev_k' (srcRng (by omega))).trans h1)⟩
theorem middles_run (hb : CallsBtw Φ) (hn : n ≤ 2 ^ 10) : runF Φ p_middles [some (matV n d), none, none, none, none, none, none] H = some (.bool (midB n d), H) := by
  have hlen : b1V H .len (matV n d) = some (nI n) := (len_lst (by rw [List.length_map, List.length_range]; omega)).trans (by rw [List.length_map, List.length_range])
  have e1 := ev_b1' (Φ := Φ) (f := .range) (ev_b1' (f := .len) (a := .var 0) (ρ := [some (matV n d), none, none, none, none, none, none]) (H := H) (ev_var' rfl) hlen) rng_nI
  obtain ⟨ρ1, h1, y2, y3, y4, y5, rfl⟩ := forL_chk (H := H) (t := .one 2) (k := nI) (st := stableV (.rng (n : Int)) H) (body := fun ρ H => exs Φ mid1 ρ H) (C := fun ρ => ∃ x2 x3 x4 x5, ρ = mE n d x2 x3 x4 x5 none) (good := fun t => (List.range' 0 t).all fun s => (List.range' 0 s).all fun f => midOk n d t s f) rfl (List.range' 0 n) (fun t ht ρ hc => by
    obtain ⟨x2, x3, x4, x5, rfl⟩ := hc
    rw [List.mem_range'_1] at ht
    obtain ⟨y3, y4, y5, e⟩ := mid_1 (H := H) (d := d) hb (x3 := x3) (x4 := x4) (x5 := x5) (x6 := none) (t := t) (by omega) hn
    exact ⟨_, _, rfl, e, _, _, _, _, rfl⟩) (mE n d none none none none none) ⟨none, none, none, none, rfl⟩
  have el := (ex_loop (Φ := Φ) (t := .one 2) (g := .plain) (body := mid1) (ρ := mE n d none none none none none) (H := H) (a := .var 1) (b := .k .none) (ev_var' rfl) ev_k' (srcRng (show n < 2 ^ 20 by omega))).trans h1
  unfold midB
  cases hg : (List.range' 0 n).all fun t => (List.range' 0 t).all fun s => (List.range' 0 s).all fun f => midOk n d t s f with
  | true => rw [hg] at el; exact runF_rt ((exs_nx (ex_assign e1)).trans ((exs_nx el).trans (exs_rt (ex_ret ev_k'))))
  | false => rw [hg] at el; exact runF_rt ((exs_nx (ex_assign e1)).trans (exs_rt el))
end
end L02
end Mine

-- R2
set_option autoImplicit false
set_option maxRecDepth 100000
namespace Mine
open PySem

noncomputable def mj (a b c : Nat) : Nat := (a &&& b) ||| (b &&& c) ||| (a &&& c)
theorem mj_bit (a b c i : Nat) : (mj a b c).testBit i = ((a.testBit i && b.testBit i) || (b.testBit i && c.testBit i) || (a.testBit i && c.testBit i)) := by
  unfold mj
  rw [Nat.testBit_or, Nat.testBit_or, Nat.testBit_and, Nat.testBit_and, Nat.testBit_and]
theorem and_zero {x y : Nat} : x &&& y = 0 ↔ ∀ i, (x.testBit i && y.testBit i) = false :=
  ⟨fun h i => by rw [← Nat.testBit_and, h, Nat.zero_testBit], fun h => Nat.eq_of_testBit_eq fun i => by rw [Nat.testBit_and, h i, Nat.zero_testBit]⟩
theorem bl_mid : ∀ a b c x : Bool, (((a ^^ x) && (x ^^ b)) = false ∧ ((a ^^ x) && (x ^^ c)) = false ∧ ((b ^^ x) && (x ^^ c)) = false) ↔ x = ((a && b) || (b && c) || (a && c)) := by decide
theorem mid_iff {a b c x : Nat} : ((a ^^^ x) &&& (x ^^^ b) = 0 ∧ (a ^^^ x) &&& (x ^^^ c) = 0 ∧ (b ^^^ x) &&& (x ^^^ c) = 0) ↔ x = mj a b c := by
  rw [and_zero, and_zero, and_zero]
  constructor
  · rintro ⟨h1, h2, h3⟩
    refine Nat.eq_of_testBit_eq fun i => ?_
    have h1 := h1 i
    have h2 := h2 i
    have h3 := h3 i
    rw [Nat.testBit_xor, Nat.testBit_xor] at h1 h2 h3
    rw [mj_bit]
    exact (bl_mid _ _ _ _).mp ⟨h1, h2, h3⟩
  · intro h
    have key := fun i => (bl_mid (a.testBit i) (b.testBit i) (c.testBit i) (x.testBit i)).mpr (by rw [h, mj_bit])
    exact ⟨fun i => by rw [Nat.testBit_xor, Nat.testBit_xor]; exact (key i).1, fun i => by rw [Nat.testBit_xor, Nat.testBit_xor]; exact (key i).2.1, fun i => by rw [Nat.testBit_xor, Nat.testBit_xor]; exact (key i).2.2⟩
theorem bl_agree : ∀ n a b c p q r : Bool, ((n ^^ a) && p) = false → ((n ^^ b) && q) = false → ((n ^^ c) && r) = false → ((n ^^ ((a && b) || (b && c) || (a && c))) && ((p && q) || (p && r) || (q && r))) = false := by decide
theorem agree {n a b c p q r : Nat} (h1 : (n ^^^ a) &&& p = 0) (h2 : (n ^^^ b) &&& q = 0) (h3 : (n ^^^ c) &&& r = 0) : (n ^^^ mj a b c) &&& ((p &&& q) ||| (p &&& r) ||| (q &&& r)) = 0 := by
  rw [and_zero] at h1 h2 h3 ⊢
  intro i
  have h1 := h1 i
  have h2 := h2 i
  have h3 := h3 i
  rw [Nat.testBit_xor] at h1 h2 h3 ⊢
  rw [mj_bit, Nat.testBit_or, Nat.testBit_or, Nat.testBit_and, Nat.testBit_and, Nat.testBit_and]
  exact bl_agree _ _ _ _ _ _ _ h1 h2 h3
theorem bl_sym : ∀ a b c : Bool, ((a && b) || (b && c) || (a && c)) = ((b && a) || (a && c) || (b && c)) ∧ ((a && b) || (b && c) || (a && c)) = ((a && c) || (c && b) || (a && b)) ∧ ((a && a) || (a && c) || (a && c)) = a := by decide
theorem mj_s1 (a b c : Nat) : mj a b c = mj b a c := Nat.eq_of_testBit_eq fun i => by rw [mj_bit, mj_bit]; exact (bl_sym _ _ _).1
theorem mj_s2 (a b c : Nat) : mj a b c = mj a c b := Nat.eq_of_testBit_eq fun i => by rw [mj_bit, mj_bit]; exact (bl_sym _ _ _).2.1
theorem mj_aa (a c : Nat) : mj a a c = a := Nat.eq_of_testBit_eq fun i => by rw [mj_bit]; exact (bl_sym _ (a.testBit i) _).2.2
theorem mj_lt {a b c : Nat} (ha : a < 16) (hb : b < 16) : mj a b c < 16 := by
  unfold mj
  exact Nat.or_lt_two_pow (n := 4) (Nat.or_lt_two_pow (Nat.and_lt_two_pow _ (hb)) (Nat.lt_of_le_of_lt Nat.and_le_left hb)) (Nat.lt_of_le_of_lt Nat.and_le_left ha)

noncomputable def Cl (fam : List Nat) : Prop := ∀ a ∈ fam, ∀ b ∈ fam, ∀ c ∈ fam, mj a b c ∈ fam
noncomputable def masks : List Nat := [3, 5, 6, 9, 10, 12]
noncomputable def Al (fam : List Nat) (n : Nat) : Prop := ∀ k ∈ masks, ∃ m ∈ fam, (n ^^^ m) &&& k = 0
noncomputable def pigeon : Bool := masks.all fun k => (List.range 16).all fun a => (List.range 16).all fun b => (List.range 16).all fun c => Nat.beq ((mj a b c ^^^ a) &&& k) 0 || Nat.beq ((mj a b c ^^^ b) &&& k) 0 || Nat.beq ((mj a b c ^^^ c) &&& k) 0
theorem pigeon_ok : pigeon = true := by decide +kernel
theorem x15 : ∀ n, n < 16 → ∀ x, x < 16 → (n ^^^ x) &&& 15 = 0 → n = x := by decide +kernel
theorem cl_iff {fam : List Nat} (h16 : ∀ m ∈ fam, m < 16) : Cl fam ↔ ∀ n, n < 16 → (Al fam n ↔ n ∈ fam) := by
  constructor
  · intro h n hn
    refine ⟨fun al => ?_, fun hm k _ => ⟨n, hm, by rw [Nat.xor_self, Nat.zero_and]⟩⟩
    obtain ⟨a, ha, e3⟩ := al 3 (by simp [masks])
    obtain ⟨b, hb, e5⟩ := al 5 (by simp [masks])
    obtain ⟨c, hc, e6⟩ := al 6 (by simp [masks])
    obtain ⟨d, hd, e9⟩ := al 9 (by simp [masks])
    obtain ⟨e, he, e10⟩ := al 10 (by simp [masks])
    obtain ⟨f, hf, e12⟩ := al 12 (by simp [masks])
    have u := agree e3 e5 e6
    have v := agree e3 e9 e10
    have w := agree e5 e9 e12
    have z := agree u v w
    have hz := h _ (h a ha b hb c hc) _ (h a ha d hd e he) _ (h b hb d hd f hf)
    rw [x15 n hn _ (h16 _ hz) z]
    exact hz
  · intro h a ha b hb c hc
    refine (h _ (mj_lt (h16 a ha) (h16 b hb))).mp fun k hk => ?_
    have := List.all_eq_true.mp (List.all_eq_true.mp (List.all_eq_true.mp (List.all_eq_true.mp pigeon_ok k hk) a (List.mem_range.mpr (h16 a ha))) b (List.mem_range.mpr (h16 b hb))) c (List.mem_range.mpr (h16 c hc))
    rw [Bool.or_eq_true, Bool.or_eq_true] at this
    rcases this with (q | q) | q
    · exact ⟨a, ha, Nat.eq_of_beq_eq_true q⟩
    · exact ⟨b, hb, Nat.eq_of_beq_eq_true q⟩
    · exact ⟨c, hc, Nat.eq_of_beq_eq_true q⟩

namespace L02
noncomputable def wd (m : Nat) : List Nat := spS m [0, 1, 2, 3]
noncomputable def words (fam : List Nat) : List (List Nat) := fam.map wd
noncomputable def unM (P : List (List Nat)) (i j : Nat) : Nat := unl (P.getD i []) (P.getD j [])
noncomputable def pc4 (n : Nat) : Nat := n % 2 + n / 2 % 2 + n / 4 % 2 + n / 8 % 2
theorem f_un : ∀ a, a < 16 → ∀ b, b < 16 → unl (wd a) (wd b) = pc4 (a ^^^ b) := by decide +kernel
noncomputable def btwAll : Bool := (List.range 16).all fun a => (List.range 16).all fun x => (List.range 16).all fun b => (Nat.beq (pc4 (a ^^^ x) + pc4 (x ^^^ b)) (pc4 (a ^^^ b))) == Nat.beq ((a ^^^ x) &&& (x ^^^ b)) 0
theorem btwAll_ok : btwAll = true := by decide +kernel
theorem f_btw {a x b : Nat} (ha : a < 16) (hx : x < 16) (hb : b < 16) : pc4 (a ^^^ x) + pc4 (x ^^^ b) = pc4 (a ^^^ b) ↔ (a ^^^ x) &&& (x ^^^ b) = 0 := by
  have := eq_of_beq (List.all_eq_true.mp (List.all_eq_true.mp (List.all_eq_true.mp btwAll_ok a (List.mem_range.mpr ha)) x (List.mem_range.mpr hx)) b (List.mem_range.mpr hb))
  rw [← Nat.beq_eq, this, Nat.beq_eq]

section
variable {fam : List Nat} (h16 : ∀ m ∈ fam, m < 16)
theorem getD_mem {i : Nat} (hi : i < fam.length) : fam.getD i 0 ∈ fam := by
  rw [List.getD_eq_getElem?_getD, List.getElem?_eq_getElem hi]; exact List.getElem_mem _
theorem wd_get {i : Nat} (hi : i < fam.length) : (words fam).getD i [] = wd (fam.getD i 0) := by
  unfold words
  rw [List.getD_eq_getElem?_getD, List.getElem?_map, List.getElem?_eq_getElem hi, List.getD_eq_getElem?_getD, List.getElem?_eq_getElem hi]; rfl
include h16
theorem un_get {i j : Nat} (hi : i < fam.length) (hj : j < fam.length) : unM (words fam) i j = pc4 (fam.getD i 0 ^^^ fam.getD j 0) := by
  unfold unM
  rw [wd_get hi, wd_get hj]
  exact f_un _ (h16 _ (getD_mem hi)) _ (h16 _ (getD_mem hj))
theorem btw_iff {a x b : Nat} (ha : a < fam.length) (hx : x < fam.length) (hb : b < fam.length) : btw (unM (words fam)) a x b = true ↔ (fam.getD a 0 ^^^ fam.getD x 0) &&& (fam.getD x 0 ^^^ fam.getD b 0) = 0 := by
  unfold btw
  rw [decide_eq_true_eq, un_get h16 ha hx, un_get h16 hx hb, un_get h16 ha hb]
  exact f_btw (h16 _ (getD_mem ha)) (h16 _ (getD_mem hx)) (h16 _ (getD_mem hb))
theorem midOk_iff {t s f : Nat} (ht : t < fam.length) (hs : s < fam.length) (hf : f < fam.length) : midOk fam.length (unM (words fam)) t s f = true ↔ mj (fam.getD f 0) (fam.getD s 0) (fam.getD t 0) ∈ fam := by
  unfold midOk
  rw [List.any_eq_true]
  constructor
  · rintro ⟨x, hx, h⟩
    rw [List.mem_range'_1] at hx
    have hx : x < fam.length := by omega
    rw [Bool.and_eq_true, Bool.and_eq_true, btw_iff h16 hf hx hs, btw_iff h16 hf hx ht, btw_iff h16 hs hx ht] at h
    rw [← mid_iff.mp ⟨h.1.1, h.1.2, h.2⟩]
    exact getD_mem hx
  · intro h
    obtain ⟨x, hx, e⟩ := List.mem_iff_getElem.mp h
    have e : fam.getD x 0 = mj (fam.getD f 0) (fam.getD s 0) (fam.getD t 0) := by rw [← e, List.getD_eq_getElem?_getD, List.getElem?_eq_getElem hx]; rfl
    refine ⟨x, by rw [List.mem_range'_1]; omega, ?_⟩
    rw [Bool.and_eq_true, Bool.and_eq_true, btw_iff h16 hf hx hs, btw_iff h16 hf hx ht, btw_iff h16 hs hx ht]
    obtain ⟨h1, h2, h3⟩ := mid_iff.mpr e
    exact ⟨⟨h1, h2⟩, h3⟩
theorem midB_iff : midB fam.length (unM (words fam)) = true ↔ Cl fam := by
  unfold midB
  rw [List.all_eq_true]
  constructor
  · intro h
    have lt : ∀ f s t, f < s → s < t → t < fam.length → mj (fam.getD f 0) (fam.getD s 0) (fam.getD t 0) ∈ fam := fun f s t h1 h2 h3 => by
      have := h t (by rw [List.mem_range'_1]; omega)
      have := List.all_eq_true.mp (List.all_eq_true.mp this s (by rw [List.mem_range'_1]; omega)) f (by rw [List.mem_range'_1]; omega)
      exact (midOk_iff h16 h3 (by omega) (by omega)).mp this
    have two : ∀ f s t, f ≤ s → s ≤ t → t < fam.length → mj (fam.getD f 0) (fam.getD s 0) (fam.getD t 0) ∈ fam := fun f s t h1 h2 h3 => by
      by_cases e1 : f = s
      · rw [e1, mj_aa]; exact getD_mem (by omega)
      · by_cases e2 : s = t
        · rw [e2, mj_s1, mj_s2, mj_aa]; exact getD_mem h3
        · exact lt f s t (by omega) (by omega) h3
    have three : ∀ f s t, f ≤ s → s < fam.length → t < fam.length → mj (fam.getD f 0) (fam.getD s 0) (fam.getD t 0) ∈ fam := fun f s t h1 h2 h3 => by
      by_cases e1 : s ≤ t
      · exact two f s t h1 e1 h3
      · rw [mj_s2]
        by_cases e2 : f ≤ t
        · exact two f t s e2 (by omega) h2
        · rw [mj_s1]; exact two t f s (by omega) h1 h2
    intro a ha b hb c hc
    obtain ⟨i, hi, ea⟩ := List.mem_iff_getElem.mp ha
    obtain ⟨j, hj, eb⟩ := List.mem_iff_getElem.mp hb
    obtain ⟨k, hk, ec⟩ := List.mem_iff_getElem.mp hc
    have gd : ∀ {i : Nat} (hi : i < fam.length), fam.getD i 0 = fam[i] := fun {i} hi => by rw [List.getD_eq_getElem?_getD, List.getElem?_eq_getElem hi]; rfl
    rw [← ea, ← eb, ← ec, ← gd hi, ← gd hj, ← gd hk]
    by_cases e : i ≤ j
    · exact three i j k e hj hk
    · rw [mj_s1]; exact three j i k (by omega) hi hk
  · intro h t ht
    rw [List.mem_range'_1] at ht
    refine List.all_eq_true.mpr fun s hs => List.all_eq_true.mpr fun f hf => ?_
    rw [List.mem_range'_1] at hs hf
    exact (midOk_iff h16 (by omega) (by omega) (by omega)).mpr (h _ (getD_mem (by omega)) _ (getD_mem (by omega)) _ (getD_mem (by omega)))
end

noncomputable def twos : List (Nat × Nat) := [(0, 1), (0, 2), (1, 2), (0, 3), (1, 3), (2, 3)]
noncomputable def sp2 (m : Nat) (t : Nat × Nat) : List Nat := spS m [t.1, t.2]
noncomputable def alB (fam : List Nat) (n : Nat) : Bool := twos.all fun t => (fam.map fun m => sp2 m t).contains (sp2 n t)
theorem twos_masks : twos.map (fun t => 2 ^ t.1 + 2 ^ t.2) = masks := by decide +kernel
noncomputable def spAll : Bool := twos.all fun t => (List.range 16).all fun n => (List.range 16).all fun m => decide (sp2 n t = sp2 m t) == Nat.beq ((n ^^^ m) &&& (2 ^ t.1 + 2 ^ t.2)) 0
theorem spAll_ok : spAll = true := by decide +kernel
theorem f_sp {t : Nat × Nat} (ht : t ∈ twos) {n m : Nat} (hn : n < 16) (hm : m < 16) : sp2 n t = sp2 m t ↔ (n ^^^ m) &&& (2 ^ t.1 + 2 ^ t.2) = 0 := by
  have := eq_of_beq (List.all_eq_true.mp (List.all_eq_true.mp (List.all_eq_true.mp spAll_ok t ht) n (List.mem_range.mpr hn)) m (List.mem_range.mpr hm))
  rw [← Nat.beq_eq, ← this, decide_eq_true_eq]
theorem alB_iff {fam : List Nat} (h16 : ∀ m ∈ fam, m < 16) {n : Nat} (hn : n < 16) : alB fam n = true ↔ Al fam n := by
  unfold alB Al
  rw [List.all_eq_true, ← twos_masks]
  constructor
  · intro h k hk
    obtain ⟨t, ht, rfl⟩ := List.mem_map.mp hk
    obtain ⟨m, hm, e⟩ := List.mem_map.mp (List.contains_iff_mem.mp (h t ht))
    exact ⟨m, hm, (f_sp ht hn (h16 m hm)).mp e.symm⟩
  · intro h t ht
    obtain ⟨m, hm, e⟩ := h _ (List.mem_map.mpr ⟨t, ht, rfl⟩)
    exact List.contains_iff_mem.mpr (List.mem_map.mpr ⟨m, hm, ((f_sp ht hn (h16 m hm)).mpr e).symm⟩)
noncomputable def allowed (fam : List Nat) : List Nat := (List.range' 0 16).filter (alB fam)
noncomputable def srt (fam : List Nat) : List Nat := (List.range' 0 16).filter fam.contains
theorem filter_iff {α : Type} {p q : α → Bool} {l : List α} : l.filter p = l.filter q ↔ ∀ x ∈ l, p x = q x := by
  constructor
  · intro h x hx
    have h1 : x ∈ l.filter p ↔ x ∈ l.filter q := by rw [h]
    rw [List.mem_filter, List.mem_filter] at h1
    exact Bool.eq_iff_iff.mpr ⟨fun e => (h1.mp ⟨hx, e⟩).2, fun e => (h1.mpr ⟨hx, e⟩).2⟩
  · exact List.filter_congr
theorem fin_ok {fam : List Nat} (h16 : ∀ m ∈ fam, m < 16) : midB fam.length (unM (words fam)) = decide (allowed fam = srt fam) := by
  rw [Bool.eq_iff_iff, midB_iff h16, decide_eq_true_eq, cl_iff h16]
  unfold allowed srt
  rw [filter_iff]
  constructor
  · intro h n hn
    rw [List.mem_range'_1] at hn
    have hn : n < 16 := by omega
    rw [Bool.eq_iff_iff, alB_iff h16 hn, h n hn, List.contains_iff_mem]
  · intro h n hn
    have := h n (by rw [List.mem_range'_1]; omega)
    rw [← alB_iff h16 hn, this, List.contains_iff_mem]
end L02
end Mine

-- R3
set_option autoImplicit false
set_option maxRecDepth 100000
namespace Mine
open PySem

section
variable {α : Type} [BEq α] [LawfulBEq α] {d : α} {l : List α}
theorem nub_nodup : (nub d l).Nodup := by
  refine List.pairwise_map.mpr ?_
  refine List.Pairwise.imp_of_mem (R := fun a b => a < b) (fun {a b} ha hb hab he => ?_) (List.Pairwise.filter _ List.pairwise_lt_range)
  have hb' := List.mem_filter.mp hb
  have hbl := List.mem_range.mp hb'.1
  have h2 := hb'.2
  rw [← he, Bool.not_eq_true'] at h2
  have hm : l.getD a d ∈ l.take b := by
    have hal : a < l.length := Nat.lt_trans hab hbl
    rw [List.getD_eq_getElem?_getD, List.getElem?_eq_getElem hal]
    exact List.mem_iff_getElem.mpr ⟨a, by rw [List.length_take]; omega, List.getElem_take⟩
  rw [List.contains_iff_mem.mpr hm] at h2; cases h2
theorem nub_ne (h : l ≠ []) : nub d l ≠ [] := by
  cases l with
  | nil => exact absurd rfl h
  | cons a l =>
    intro e
    have : (nub d (a :: l)) = _ := rfl
    unfold nub at e
    rw [List.map_eq_nil_iff, List.filter_eq_nil_iff] at e
    exact e 0 (List.mem_range.mpr (Nat.succ_pos _)) rfl
end
theorem unl_self (a : List Nat) : unl a a = 0 := by
  unfold unl
  induction a with
  | nil => rfl
  | cons x a ih => rw [List.zip_cons_cons, List.filter_cons, if_neg (by simp)]; exact ih
theorem unl_symm (a : List Nat) : ∀ b, unl a b = unl b a := by
  unfold unl
  induction a with
  | nil => intro b; cases b <;> rfl
  | cons x a ih =>
    intro b
    cases b with
    | nil => rfl
    | cons y b =>
      rw [List.zip_cons_cons, List.zip_cons_cons, List.filter_cons, List.filter_cons]
      have e : decide (x = y) = decide (y = x) := by rw [decide_eq_decide]; exact eq_comm
      dsimp only
      rw [e]
      cases decide (y = x)
      · exact congrArg Nat.succ (ih b)
      · exact ih b

theorem eqvAll_self {l : List PyData} (h : ∀ x ∈ l, PyData.eqv x x = true) : PyData.eqvAll l l = true := by
  induction l with
  | nil => simp [PyData.eqvAll]
  | cons a l ih => rw [PyData.eqvAll, h a (.head _), ih fun x hx => h x (.tail _ hx)]; rfl
theorem eqv_lself {l : List PyData} (h : ∀ x ∈ l, PyData.eqv x x = true) : PyData.eqv (.list l) (.list l) = true := by rw [PyData.eqv]; exact eqvAll_self h
theorem eqv_tself {l : List PyData} (h : ∀ x ∈ l, PyData.eqv x x = true) : PyData.eqv (.tuple l) (.tuple l) = true := by rw [PyData.eqv]; exact eqvAll_self h
theorem eqv_sself (s : List Nat) : PyData.eqv (pstr s) (pstr s) = true := (eqv_str s s).trans (decide_eq_true rfl)
theorem eqV_self {H : Hp} {v : V} {d : PyData} (h : toPy H 8 v = some d) (hd : PyData.eqv d d = true) : eqV H v v = some true := (bd_eq h).trans ((bd_eq h).trans (congrArg some hd))
theorem toPy_tup {H : Hp} {n : Nat} {l : List V} {ds : List PyData} (h : allSome (l.map (toPy H n)) = some ds) : toPy H (n + 1) (.tup l) = some (.tuple ds) := om_eq h
theorem eqV_ents {H : Hp} {es : List (List Nat × List Nat)} (h : ∀ p ∈ es, asc p.1 = true ∧ asc p.2 = true) : eqV H (.lst (es.map ent)) (.lst (es.map ent)) = some true := by
  refine eqV_self (d := .list (es.map fun p => .tuple [pstr p.1, pstr p.2])) (toPy_lst ?_) (eqv_lself fun x hx => ?_)
  · rw [List.map_map]
    refine allSome_map fun p hp => toPy_tup (ds := [pstr p.1, pstr p.2]) ?_
    rw [List.map_cons, List.map_cons, List.map_nil, toPy_str (h p hp).1, toPy_str (h p hp).2]; rfl
  · obtain ⟨p, _, rfl⟩ := List.mem_map.mp hx
    refine eqv_tself fun y hy => ?_
    rcases List.mem_cons.mp hy with rfl | hy
    · exact eqv_sself _
    · rw [List.mem_singleton.mp hy]; exact eqv_sself _
noncomputable abbrev sV (r : List (List Nat)) : V := .lst (r.map V.str)
theorem eqV_strss {H : Hp} {gs : List (List (List Nat))} (h : ∀ g ∈ gs, ∀ s ∈ g, asc s = true) : eqV H (.lst (gs.map sV)) (.lst (gs.map sV)) = some true := by
  refine eqV_self (d := .list (gs.map fun g => .list (g.map pstr))) (toPy_lst (by rw [List.map_map]; exact allSome_map fun g hg => toPy_strs (.inl ⟨_, rfl⟩) rfl (h g hg))) (eqv_lself fun x hx => ?_)
  obtain ⟨g, _, rfl⟩ := List.mem_map.mp hx
  refine eqv_lself fun y hy => ?_
  obtain ⟨s, _, rfl⟩ := List.mem_map.mp hy
  exact eqv_sself _
noncomputable abbrev tV (t : Nat × Nat) : V := .tup [nI t.1, nI t.2]
theorem eqV_tvs {H : Hp} {ts : List (Nat × Nat)} : eqV H (.lst (ts.map tV)) (.lst []) = some (decide (ts = [])) := by
  have e : toPy H 8 (.lst (ts.map tV)) = some (.list (ts.map fun t => .tuple [pnat t.1, pnat t.2])) := toPy_lst (by rw [List.map_map]; exact allSome_map fun t _ => toPy_tup (ds := [pnat t.1, pnat t.2]) (by rw [List.map_cons, List.map_cons, List.map_nil, toPy_int, toPy_int]; rfl))
  refine (bd_eq e).trans ((bd_eq (toPy_nats (xs := []))).trans (congrArg some ?_))
  rw [PyData.eqv]
  cases ts with
  | nil => simp [PyData.eqvAll]
  | cons t ts => simp [PyData.eqvAll]
theorem toPy_cnats {H : Hp} {n k : Nat} {xs : List Nat} (h : H[k]? = some (xs.map nI)) : toPy H (n + 1) (.cell k) = some (.list (xs.map pnat)) :=
  (show toPy H (n + 1) (.cell k) = cellPy H (toPy H n) k from rfl).trans (by unfold cellPy; rw [h]; exact om_eq (by rw [List.map_map]; exact allSome_map fun x _ => toPy_int))
theorem eqV_cnats {H : Hp} {k : Nat} {xs ys : List Nat} (h : H[k]? = some (xs.map nI)) : eqV H (.cell k) (.lst (ys.map nI)) = some (decide (xs = ys)) :=
  (bd_eq (toPy_cnats h)).trans ((bd_eq toPy_nats).trans (congrArg some (by rw [PyData.eqv, eqvAll_nats])))

namespace L02
theorem srt_run {H : Hp} {fam : List Nat} (h16 : ∀ m ∈ fam, m < 16) (hd : fam.Nodup) (hl : fam.length < 64) : b1V H .sorted (.lst (fam.map nI)) = some (.lst ((srt fam).map nI)) := by
  have e : ints? (fam.map nI) = some (fam.map fun (n : Nat) => (n : Int)) := by
    have : fam.map nI = (fam.map fun (n : Nat) => (n : Int)).map V.int := by rw [List.map_map]; rfl
    rw [this, ints?_map]
  have hp : List.Perm fam (srt fam) := by
    refine (List.perm_ext_iff_of_nodup hd (List.Pairwise.filter _ (by decide))).mpr fun m => ?_
    rw [List.mem_filter, List.contains_iff_mem]
    exact ⟨fun h => ⟨by have := h16 m h; rw [List.mem_range'_1]; omega, h⟩, fun h => h.2⟩
  have hs : sortI (fam.map fun (n : Nat) => (n : Int)) = (srt fam).map fun (n : Nat) => (n : Int) := by
    refine List.Perm.eq_of_pairwise (fun a b _ _ h1 h2 => Int.le_antisymm h1 h2) (sort_sorted _) ?_ ((sort_perm _).trans (hp.map _))
    refine List.pairwise_map.mpr (List.Pairwise.imp (R := fun a b => a < b) (fun {a b} h => Int.ofNat_le.mpr (Nat.le_of_lt h)) (List.Pairwise.filter _ (by decide)))
  refine (bd_eq (show ((listV H (.lst (fam.map nI))).bind ints?) = _ from e)).trans ((if_pos (by rw [List.length_map]; exact hl)).trans ?_)
  rw [hs, List.map_map]; rfl

noncomputable def rowsS (fam : List Nat) : List (List (List Nat)) := fam.map fun m => twos.map (sp2 m)
noncomputable def ents (R : List (List (List Nat))) : List (List Nat × List Nat) := R.flatMap fun r => r.map fun s => (s, s)
noncomputable def gv (fam : List Nat) : List (List (List Nat)) := twos.map fun t => fam.map fun m => sp2 m t
structure LawOk (fam : List Nat) (par : Nat) : Prop where
  h16 : ∀ m ∈ fam, m < 16
  nd : fam.Nodup
  ne : fam ≠ []
  far : levP (spS (fam.getD 0 0) [1, 2, 3]) (spS (fam.getD (fam.length - 1) 0) [0, 1, 2]) 6 = 4 + unl (spS (fam.getD 0 0) [1, 2]) (spS (fam.getD (fam.length - 1) 0) [1, 2])
  far0 : levP (wd (fam.getD 0 0)) (wd (fam.getD (fam.length - 1) 0)) 0 = if fam.length > 1 then 1 else 0
  left : ∀ t ∈ twos, ((ents (rowsS fam)).filter fun p => decide (low p.1 = low (sp2 par t))).map (·.2) = fam.map fun m => sp2 m t
  told : ∀ i j, i < fam.length → j < fam.length → DD (lvP (words fam) 4) i j = unM (words fam) i j

noncomputable def farAll : Bool := (List.range 16).all fun a => (List.range 16).all fun b => decide (levP (spS a [1, 2, 3]) (spS b [0, 1, 2]) 6 = 4 + unl (spS a [1, 2]) (spS b [1, 2]))
theorem farAll_ok : farAll = true := by decide +kernel
noncomputable def far0All : Bool := (List.range 16).all fun a => (List.range 16).all fun b => decide (levP (wd a) (wd b) 0 = if a = b then 0 else 1)
theorem far0All_ok : far0All = true := by decide +kernel
noncomputable def toldAll : Bool := (List.range 16).all fun a => (List.range 16).all fun b => decide (levP (wd a) (wd b) 4 = unl (wd a) (wd b))
theorem toldAll_ok : toldAll = true := by decide +kernel
theorem use2 {f : Nat → Nat → Bool} (h : ((List.range 16).all fun a => (List.range 16).all fun b => f a b) = true) {a b : Nat} (ha : a < 16) (hb : b < 16) : f a b = true := List.all_eq_true.mp (List.all_eq_true.mp h a (List.mem_range.mpr ha)) b (List.mem_range.mpr hb)
noncomputable def leftAll : Bool := twos.all fun t => (List.range 16).all fun m => decide (low (sp2 15 t) = low (sp2 0 t)) && decide ((twos.filter fun u => decide (low (sp2 m u) = low (sp2 0 t))) = [t])
theorem leftAll_ok : leftAll = true := by decide +kernel
theorem left_ok {fam : List Nat} (h16 : ∀ m ∈ fam, m < 16) {par : Nat} (hp : par = 0 ∨ par = 15) {t : Nat × Nat} (ht : t ∈ twos) : ((ents (rowsS fam)).filter fun p => decide (low p.1 = low (sp2 par t))).map (·.2) = fam.map fun m => sp2 m t := by
  have use : ∀ m, m < 16 → low (sp2 15 t) = low (sp2 0 t) ∧ (twos.filter fun u => decide (low (sp2 m u) = low (sp2 0 t))) = [t] := fun m hm => by
    have := List.all_eq_true.mp (List.all_eq_true.mp leftAll_ok t ht) m (List.mem_range.mpr hm)
    rw [Bool.and_eq_true, decide_eq_true_eq, decide_eq_true_eq] at this
    exact this
  have hl : low (sp2 par t) = low (sp2 0 t) := by
    rcases hp with rfl | rfl
    · rfl
    · exact (use 0 (by decide)).1
  rw [hl]
  unfold ents rowsS
  induction fam with
  | nil => rfl
  | cons m l ih =>
    rw [List.map_cons, List.flatMap_cons, List.filter_append, List.map_append, ih fun x hx => h16 x (.tail _ hx), List.map_cons, List.map_map, List.filter_map,
      show ((fun p : List Nat × List Nat => decide (low p.1 = low (sp2 0 t))) ∘ ((fun s => (s, s)) ∘ sp2 m)) = fun u => decide (low (sp2 m u) = low (sp2 0 t)) from rfl, (use m (h16 m (.head _))).2]
    rfl
theorem lawOk {fam : List Nat} (h16 : ∀ m ∈ fam, m < 16) (nd : fam.Nodup) (ne : fam ≠ []) {par : Nat} (hp : par = 0 ∨ par = 15) : LawOk fam par := by
  have h0 : 0 < fam.length := List.length_pos_iff.mpr ne
  have ha := h16 _ (getD_mem (fam := fam) h0)
  have hb := h16 _ (getD_mem (fam := fam) (i := fam.length - 1) (by omega))
  refine ⟨h16, nd, ne, of_decide_eq_true (use2 farAll_ok ha hb), ?_, fun t ht => left_ok h16 hp ht, fun i j hi hj => ?_⟩
  · have := of_decide_eq_true (use2 far0All_ok ha hb)
    rw [this]
    by_cases h : fam.length > 1
    · rw [if_pos h, if_neg fun e => ?_]
      rw [List.getD_eq_getElem?_getD, List.getD_eq_getElem?_getD, List.getElem?_eq_getElem h0, List.getElem?_eq_getElem (show fam.length - 1 < fam.length by omega)] at e
      have := (List.getElem_inj nd).mp e
      omega
    · rw [if_neg h, if_pos (by rw [show fam.length - 1 = 0 by omega])]
  · have key : ∀ i j, i < fam.length → j < fam.length → lvP (words fam) 4 i j = unM (words fam) i j := fun i j hi hj => by
      unfold lvP unM
      rw [wd_get hi, wd_get hj]
      exact of_decide_eq_true (use2 toldAll_ok (h16 _ (getD_mem hi)) (h16 _ (getD_mem hj)))
    unfold DD
    by_cases h : i = j
    · rw [if_pos h, h]; exact (unl_self _).symm
    · rw [if_neg h]
      by_cases h2 : j < i
      · rw [if_pos h2]; exact key i j hi hj
      · rw [if_neg h2, key j i hj hi]; exact unl_symm _ _
end L02
end Mine

-- R4
set_option autoImplicit false
set_option maxRecDepth 100000
namespace Mine
open PySem
namespace L02
theorem ltr_lt {n p : Nat} (h : p < 4) : 65 ≤ ltr n p ∧ ltr n p < 101 := by
  have h2 : bitOf n p < 2 := Nat.mod_lt _ (by decide)
  have key : ∀ k, k < 8 → 65 ≤ ([97, 65, 98, 66, 99, 67, 100, 68] : List Nat).getD k 0 ∧ ([97, 65, 98, 66, 99, 67, 100, 68] : List Nat).getD k 0 < 101 := by decide
  exact key _ (by omega)
theorem sp_gs {n : Nat} {ps : List Nat} (h : ∀ p ∈ ps, p < 4) (hl : ps.length ≤ 64) : GS (spS n ps) := by
  refine ⟨clean_iff.mpr fun c hc => ?_, by unfold spS; rw [List.length_map]; exact hl⟩
  obtain ⟨p, hp, rfl⟩ := List.mem_map.mp hc
  have := ltr_lt (n := n) (h p hp)
  omega
theorem twos_lt : ∀ t ∈ twos, ∀ p ∈ [t.1, t.2], p < 4 := by decide +kernel
theorem sp2_gs {n : Nat} {t : Nat × Nat} (h : t ∈ twos) : GS (sp2 n t) := sp_gs (twos_lt t h) (Nat.le_of_ble_eq_true rfl)
theorem wd_gs {n : Nat} : GS (wd n) := sp_gs (by decide) (by decide)

theorem all_filter {α : Type} {p : α → Bool} (l : List α) : decide ((l.filter fun x => !p x) = []) = l.all p := by
  induction l with
  | nil => rfl
  | cons a l ih =>
    rw [List.filter_cons, List.all_cons, ← ih]
    cases p a <;> simp
structure Calls (Φ : Fns) : Prop where
  sp : ∀ (n : Nat) (x : V) (ps : List Nat) (H : Hp), n ≤ 2 ^ 20 → srcV .plain x .none H = some (ps.map nI) → (∀ p ∈ ps, p < 4) → ps.length ≤ 4 → Φ 14 [nI n, x] H = some (.str (spS n ps), H)
  un : ∀ (a b : List Nat) (H : Hp), asc a = true → asc b = true → a.length ≤ 100 → Φ 15 [.str a, .str b] H = some (nI (unl a b), H)
  lev : CallsLevG Φ
  told : ∀ (P : List (List Nat)) (H : Hp), (∀ p ∈ P, asc p = true ∧ p.length ≤ 40) → P.length ≤ 2 ^ 10 → Φ 16 [.lst (P.map V.str)] H = some (matV P.length (DD (lvP P 4)), H)
  mid : ∀ (n : Nat) (d : Nat → Nat → Nat) (H : Hp), n ≤ 2 ^ 10 → Φ 18 [matV n d] H = some (.bool (midB n d), H)
  hdr : ∀ H : Hp, Φ 12 [] H = some (.hdr (.cell H.length), H ++ [[]])
  add : ∀ (L : List V) (G : Hp) (n v : List Nat), GS n → GS v → L.length ≤ 2 ^ 16 → Φ 6 [.hdr (.cell 0), .str n, .str v] (L :: G) = some (.none, (L ++ [ent (n, v)]) :: (G ++ [[.str v]]))
  items : ∀ (n : Nat) (H : Hp) (l : List V), H[n]? = some l → l.length ≤ 2 ^ 16 → Φ 7 [.hdr (.cell n)] H = some (.lst l, H)
  ga : ∀ (H : Hp) (v : V) (n : List Nat) (es : List (List Nat × List Nat)), listV H v = some (es.map ent) → (∀ p ∈ es, GS p.1) → GS n → es.length ≤ 2 ^ 16 → Φ 5 [.hdr v, .str n] H = some (.lst ((es.filter fun p => decide (low p.1 = low n)).map fun p => .str p.2), H)

noncomputable abbrev E (x0 x1 x3 x4 x5 x8 x11 x13 x14 x15 x16 x17 x20 x21 x22 x23 x24 : Option V) : En := [x0, x1, none, x3, x4, x5, none, none, x8, none, none, x11, none, x13, x14, x15, x16, x17, none, none, x20, x21, x22, x23, x24]

section
variable {Φ : Fns} {x0 x1 x3 x4 x5 x8 x11 x13 x14 x15 x16 x17 x20 x21 x22 x23 x24 : Option V} {H : Hp} {fam : List Nat}
theorem twos_run : ev Φ (.comp2 (.tup (.cons (.var 10) (.cons (.var 9) .nil))) (.one 9) (.b1 .range (.k (.int 4))) (.one 10) (.b1 .range (.var 9)) [9, 10]) (E x0 x1 x3 x4 x5 x8 x11 x13 x14 x15 x16 x17 x20 x21 x22 x23 x24) H = some (.lst (twos.map tV), H) :=
  ev_cmap2 (xs := List.range' 0 4) (k := nI) (ys := fun v => List.range' 0 v) (k2 := nI) (g := fun v u => tV (u, v)) (ev_b1' (f := .range) ev_k' (r := .rng ((4 : Nat) : Int)) rfl) (srcRng (by decide))
    (fun v hv => ⟨_, _, rfl, ev_b1' (f := .range) (ev_var' rfl) rng_nI, srcRng (by rw [List.mem_range'_1] at hv; omega), fun u _ => ⟨_, rfl, ev_tup2 (ev_var' rfl) (ev_var' rfl)⟩⟩) (Nat.le_of_ble_eq_true rfl)
variable (C : Calls Φ)
include C
theorem sp2_run {n : Nat} {t : Nat × Nat} (hn : n ≤ 2 ^ 20) (ht : t ∈ twos) : Φ 14 [nI n, tV t] H = some (.str (sp2 n t), H) := C.sp n (tV t) [t.1, t.2] H hn rfl (twos_lt t ht) (Nat.le_of_ble_eq_true rfl)
theorem rows_run (h16 : ∀ m ∈ fam, m < 16) (hl : fam.length ≤ 2 ^ 10) : ev Φ (.comp false (.comp false (.call 14 (.cons (.var 7) (.cons (.var 12) .nil))) (.one 12) .plain (.var 8) (.k .none) [12] false (.k .none)) (.one 7) .plain (.var 5) (.k .none) [7] false (.k .none)) (E x0 x1 x3 x4 (some (.lst (fam.map nI))) (some (.lst (twos.map tV))) x11 x13 x14 x15 x16 x17 x20 x21 x22 x23 x24) H = some (.lst ((rowsS fam).map sV), H) := by
  refine (ev_cmap (xs := fam) (k := nI) (g := fun m => sV (twos.map (sp2 m))) (ev_var' rfl) ev_k' srcStrs fun m hm => ⟨_, rfl, (ev_cmap (xs := twos) (k := tV) (g := fun t => .str (sp2 m t)) (ev_var' rfl) ev_k' srcStrs fun t ht => ⟨_, rfl, ev_call2 (ev_var' rfl) (ev_var' rfl) (sp2_run C (by have := h16 m hm; omega) ht)⟩).trans ((mkL_false (Nat.le_of_ble_eq_true rfl)).trans ?_)⟩).trans ((mkL_false (by rw [List.length_map]; omega)).trans ?_)
  · rw [show (twos.map fun t => V.str (sp2 m t)) = (twos.map (sp2 m)).map V.str from (List.map_map ..).symm]
  · unfold rowsS
    rw [List.map_map]; rfl
theorem words_run (h16 : ∀ m ∈ fam, m < 16) (hl : fam.length ≤ 2 ^ 10) : ev Φ (.comp false (.call 14 (.cons (.var 7) (.cons (.b1 .range (.k (.int 4))) .nil))) (.one 7) .plain (.var 5) (.k .none) [7] false (.k .none)) (E x0 x1 x3 x4 (some (.lst (fam.map nI))) x8 x11 x13 x14 x15 x16 x17 x20 x21 x22 x23 x24) H = some (.lst ((words fam).map V.str), H) := by
  refine (ev_cmap (xs := fam) (k := nI) (g := fun m => .str (wd m)) (ev_var' rfl) ev_k' srcStrs fun m hm => ⟨_, rfl, ev_call2 (ev_var' rfl) (ev_b1' (f := .range) ev_k' (r := .rng ((4 : Nat) : Int)) rfl) (C.sp m _ [0, 1, 2, 3] H (by have := h16 m hm; omega) (srcRng (n := 4) (by decide)) (by decide) (by decide))⟩).trans ((mkL_false (by rw [List.length_map]; omega)).trans ?_)
  rw [show (fam.map fun m => V.str (wd m)) = (words fam).map V.str from (List.map_map ..).symm]

noncomputable abbrev addIn : PSs := (.cons (.expr (.call 6 (.cons (.var 13) (.cons (.var 15) (.cons (.var 15) .nil))))) .nil)
noncomputable abbrev addOut : PSs := (.cons (.loop (.one 15) .plain (.var 14) (.k .none) addIn) .nil)
theorem add_in {st : Hp → Bool} (hst : ∀ H, st H = true) (r : List (List Nat)) : ∀ (es : List (List Nat × List Nat)) (G : Hp) (x15 : Option V), (∀ s ∈ r, GS s) → es.length + r.length ≤ 2 ^ 16 →
    ∃ y15 G', forL st (.one 15) (fun ρ H => exs Φ addIn ρ H) (r.map V.str) (E x0 x1 x3 x4 x5 x8 x11 (some (.hdr (.cell 0))) x14 x15 x16 x17 x20 x21 x22 x23 x24) (es.map ent :: G) = some (.nx, E x0 x1 x3 x4 x5 x8 x11 (some (.hdr (.cell 0))) x14 y15 x16 x17 x20 x21 x22 x23 x24, (es ++ r.map fun s => (s, s)).map ent :: G') := by
  induction r with
  | nil => intro es G x15 _ _; exact ⟨x15, G, by rw [List.map_nil, List.map_nil, List.append_nil]; rfl⟩
  | cons s r ih =>
    intro es G x15 h hl
    rw [List.length_cons] at hl
    have hs := h s (.head _)
    have e := C.add (es.map ent) G s s hs hs (by rw [List.length_map]; omega)
    obtain ⟨y15, G', e2⟩ := ih (es ++ [(s, s)]) (G ++ [[.str s]]) (some (.str s)) (fun u hu => h u (.tail _ hu)) (by rw [List.length_append, List.length_singleton]; omega)
    refine ⟨y15, G', ?_⟩
    rw [List.append_assoc] at e2
    rw [show es.map ent ++ [ent (s, s)] = (es ++ [(s, s)]).map ent by rw [List.map_append]; rfl] at e
    exact (forL_nx (t := .one 15) (v := .str s) rfl ((exs_nx (ex_expr (ev_call3 (ev_var' rfl) (ev_var' rfl) (ev_var' rfl) e) rfl)).trans exs_nil) (hst _)).trans e2
theorem add_out {st : Hp → Bool} (hst : ∀ H, st H = true) (R : List (List (List Nat))) : ∀ (es : List (List Nat × List Nat)) (G : Hp) (x14 x15 : Option V), (∀ r ∈ R, ∀ s ∈ r, GS s) → es.length + (ents R).length ≤ 2 ^ 16 →
    ∃ y14 y15 G', forL st (.one 14) (fun ρ H => exs Φ addOut ρ H) (R.map sV) (E x0 x1 x3 x4 x5 x8 x11 (some (.hdr (.cell 0))) x14 x15 x16 x17 x20 x21 x22 x23 x24) (es.map ent :: G) = some (.nx, E x0 x1 x3 x4 x5 x8 x11 (some (.hdr (.cell 0))) y14 y15 x16 x17 x20 x21 x22 x23 x24, (es ++ ents R).map ent :: G') := by
  induction R with
  | nil => intro es G x14 x15 _ _; exact ⟨x14, x15, G, by rw [show es ++ ents [] = es from List.append_nil es]; rfl⟩
  | cons r R ih =>
    intro es G x14 x15 h hl
    have hc : ents (r :: R) = (r.map fun s => (s, s)) ++ ents R := List.flatMap_cons ..
    rw [hc, List.length_append, List.length_map] at hl
    obtain ⟨y15, G1, e1⟩ := add_in C (x0 := x0) (x1 := x1) (x3 := x3) (x4 := x4) (x5 := x5) (x8 := x8) (x11 := x11) (x14 := some (sV r)) (x16 := x16) (x17 := x17) (x20 := x20) (x21 := x21) (x22 := x22) (x23 := x23) (x24 := x24) (st := stableV (sV r) (es.map ent :: G)) (fun _ => rfl) r es G x15 (h r (.head _)) (by omega)
    obtain ⟨z14, z15, G', e2⟩ := ih (es ++ r.map fun s => (s, s)) G1 (some (sV r)) y15 (fun u hu => h u (.tail _ hu)) (by rw [List.length_append, List.length_map]; omega)
    refine ⟨z14, z15, G', ?_⟩
    rw [hc, ← List.append_assoc]
    exact (forL_nx (t := .one 14) (v := sV r) rfl ((exs_nx ((ex_loop (ev_var' rfl) ev_k' srcStrs).trans e1)).trans exs_nil) (hst _)).trans e2
theorem items_ck {R : List (List (List Nat))} {G : Hp} (h : ∀ r ∈ R, ∀ s ∈ r, GS s) (hl : (ents R).length ≤ 2 ^ 16) : ev Φ (.cmp .ne (.call 7 (.cons (.var 13) .nil)) (.comp2 (.tup (.cons (.var 15) (.cons (.var 15) .nil))) (.one 14) (.var 11) (.one 15) (.var 14) [14, 15])) (E x0 x1 x3 x4 x5 x8 (some (.lst (R.map sV))) (some (.hdr (.cell 0))) x14 x15 x16 x17 x20 x21 x22 x23 x24) ((ents R).map ent :: G) = some (.bool false, (ents R).map ent :: G) := by
  have e1 := ev_call1 (Φ := Φ) (f := 7) (a := .var 13) (ρ := E x0 x1 x3 x4 x5 x8 (some (.lst (R.map sV))) (some (.hdr (.cell 0))) x14 x15 x16 x17 x20 x21 x22 x23 x24) (H := (ents R).map ent :: G) (ev_var' rfl) (C.items 0 ((ents R).map ent :: G) _ rfl (by rw [List.length_map]; exact hl))
  have hm : (R.flatMap fun r => r.map fun s => ent (s, s)) = (ents R).map ent := by
    unfold ents
    rw [List.map_flatMap]
    refine congrArg (fun f => R.flatMap f) (funext fun r => ?_)
    rw [List.map_map]; rfl
  have e2 := ev_cmap2 (Φ := Φ) (elt := .tup (.cons (.var 15) (.cons (.var 15) .nil))) (t1 := .one 14) (t2 := .one 15) (a1 := .var 11) (a2 := .var 14) (cl := [14, 15]) (ρ := E x0 x1 x3 x4 x5 x8 (some (.lst (R.map sV))) (some (.hdr (.cell 0))) x14 x15 x16 x17 x20 x21 x22 x23 x24) (H := (ents R).map ent :: G) (xs := R) (k := sV) (ys := fun r => r) (k2 := V.str) (g := fun _ s => ent (s, s))
    (ev_var' rfl) srcStrs (fun r _ => ⟨_, _, rfl, ev_var' rfl, srcStrs, fun s _ => ⟨_, rfl, ev_tup2 (ev_var' rfl) (ev_var' rfl)⟩⟩) (by rw [hm, List.length_map]; exact hl)
  rw [hm] at e2
  refine ev_cmp' (op := .ne) e1 e2 (om_eq (eqV_ents fun p hp => ?_))
  obtain ⟨r, hr, hp⟩ := List.mem_flatMap.mp hp
  obtain ⟨s, hs, rfl⟩ := List.mem_map.mp hp
  exact ⟨(h r hr s hs).asc, (h r hr s hs).asc⟩

noncomputable abbrev alBody : PSs := (.cons (.assign 24 (.comp false (.var 12) (.two 12 14) .zip (.var 8) (.var 22) [12, 14] true (.cmp .nmem (.call 14 (.cons (.var 4) (.cons (.var 12) .nil))) (.var 14)))) (.cons (.aug 23 .add (.ite (.cmp .eq (.var 24) (.lst false .nil)) (.lst false (.cons (.var 4) .nil)) (.lst false .nil))) .nil))
theorem al_step {k n : Nat} {cur : List Nat} (hn : n < 16) (hk : H[k]? = some (cur.map nI)) (hl : cur.length + 1 ≤ 2 ^ 16) : ∃ y24, exs Φ alBody (E x0 x1 x3 (some (nI n)) x5 (some (.lst (twos.map tV))) x11 x13 x14 x15 x16 x17 x20 x21 (some (.lst ((gv fam).map sV))) (some (.cell k)) x24) H =
    some (.nx, E x0 x1 x3 (some (nI n)) x5 (some (.lst (twos.map tV))) x11 x13 x14 x15 x16 x17 x20 x21 (some (.lst ((gv fam).map sV))) (some (.cell k)) y24, H.set k ((cur ++ [n].filter (alB fam)).map nI)) := by
  have hz : srcV .zip (.lst (twos.map tV)) (.lst ((gv fam).map sV)) H = some (twos.map fun t => .tup [tV t, sV (fam.map fun m => sp2 m t)]) := rfl
  have e24 := ev_cfil (Φ := Φ) (m := false) (elt := .var 12) (c := (.cmp .nmem (.call 14 (.cons (.var 4) (.cons (.var 12) .nil))) (.var 14))) (t := .two 12 14) (gn := .zip) (cl := [12, 14]) (ρ := E x0 x1 x3 (some (nI n)) x5 (some (.lst (twos.map tV))) x11 x13 x14 x15 x16 x17 x20 x21 (some (.lst ((gv fam).map sV))) (some (.cell k)) x24) (H := H) (a := .var 8) (b := .var 22) (xs := twos) (g := tV) (p := fun t => !((fam.map fun m => sp2 m t).contains (sp2 n t)))
    (ev_var' rfl) (ev_var' rfl) hz fun t ht => ⟨_, _, rfl, ev_cmp' (op := .nmem) (ev_call2 (ev_var' rfl) (ev_var' rfl) (sp2_run C (by omega) ht)) (ev_var' rfl) (om_eq (mem_strs (sp2_gs ht).asc fun x hx => by obtain ⟨m, _, rfl⟩ := List.mem_map.mp hx; exact (sp2_gs ht).asc)), rfl, ev_var' rfl⟩
  rw [mkL_false (by rw [List.length_map]; exact Nat.le_trans (List.length_filter_le ..) (by decide +kernel))] at e24
  have hal : decide ((twos.filter fun t => !((fam.map fun m => sp2 m t).contains (sp2 n t))) = []) = alB fam n := all_filter twos
  generalize (twos.filter fun t => !((fam.map fun m => sp2 m t).contains (sp2 n t))) = ts at *
  refine ⟨some (.lst (ts.map tV)), (exs_nx (ex_assign e24)).trans ?_⟩
  have c24 := ev_cmp' (Φ := Φ) (op := .eq) (a := .var 24) (b := .lst false .nil) (ρ := E x0 x1 x3 (some (nI n)) x5 (some (.lst (twos.map tV))) x11 x13 x14 x15 x16 x17 x20 x21 (some (.lst ((gv fam).map sV))) (some (.cell k)) (some (.lst (ts.map tV)))) (H := H) (ev_var' rfl) ((ev_lst' evs_nil').trans rfl) (eqV_tvs (ts := ts))
  rw [hal] at c24
  have hi : ev Φ (.ite (.cmp .eq (.var 24) (.lst false .nil)) (.lst false (.cons (.var 4) .nil)) (.lst false .nil)) (E x0 x1 x3 (some (nI n)) x5 (some (.lst (twos.map tV))) x11 x13 x14 x15 x16 x17 x20 x21 (some (.lst ((gv fam).map sV))) (some (.cell k)) (some (.lst (ts.map tV)))) H = some (.lst (([n].filter (alB fam)).map nI), H) := by
    rw [List.filter_cons, List.filter_nil]
    cases hb : alB fam n with
    | true => rw [hb] at c24; exact (ev_ite_t c24 rfl).trans (ev_lst1 (ev_var' rfl))
    | false => rw [hb] at c24; exact (ev_ite_f c24 rfl).trans ((ev_lst' evs_nil').trans rfl)
  have ea := ex_aug_cell (Φ := Φ) (x := 23) (n := k) rfl hi hk (by rw [List.length_map, List.length_map]; exact Nat.le_trans (Nat.add_le_add_left (List.length_filter_le ..) _) hl)
  rw [← List.map_append] at ea
  exact (exs_nx ea).trans exs_nil
theorem al_loop {k : Nat} {st : Hp → Bool} (hst : ∀ H, st H = true) (its : List Nat) : ∀ (H : Hp) (cur : List Nat) (x4 x24 : Option V), (∀ n ∈ its, n < 16) → H[k]? = some (cur.map nI) → cur.length + its.length ≤ 2 ^ 16 →
    ∃ y4 y24 H', forL st (.one 4) (fun ρ H => exs Φ alBody ρ H) (its.map nI) (E x0 x1 x3 x4 x5 (some (.lst (twos.map tV))) x11 x13 x14 x15 x16 x17 x20 x21 (some (.lst ((gv fam).map sV))) (some (.cell k)) x24) H =
      some (.nx, E x0 x1 x3 y4 x5 (some (.lst (twos.map tV))) x11 x13 x14 x15 x16 x17 x20 x21 (some (.lst ((gv fam).map sV))) (some (.cell k)) y24, H') ∧ H'[k]? = some ((cur ++ its.filter (alB fam)).map nI) := by
  induction its with
  | nil => intro H cur x4 x24 _ hk _; exact ⟨x4, x24, H, rfl, by rw [List.filter_nil, List.append_nil]; exact hk⟩
  | cons n its ih =>
    intro H cur x4 x24 h hk hl
    rw [List.length_cons] at hl
    obtain ⟨y24, e⟩ := al_step C (H := H) (x0 := x0) (x1 := x1) (x3 := x3) (x5 := x5) (x11 := x11) (x13 := x13) (x14 := x14) (x15 := x15) (x16 := x16) (x17 := x17) (x20 := x20) (x21 := x21) (x24 := x24) (fam := fam) (k := k) (n := n) (cur := cur) (h n (.head _)) hk (by omega)
    have hf : ([n].filter (alB fam)).length ≤ 1 := List.length_filter_le ..
    obtain ⟨z4, z24, H', e2, h2⟩ := ih (H.set k ((cur ++ [n].filter (alB fam)).map nI)) (cur ++ [n].filter (alB fam)) (some (nI n)) y24 (fun u hu => h u (.tail _ hu)) (by rw [List.getElem?_set_self (List.getElem?_eq_some_iff.mp hk).1]) (by rw [List.length_append]; omega)
    refine ⟨z4, z24, H', (forL_nx (t := .one 4) (v := nI n) rfl e (hst _)).trans e2, ?_⟩
    rw [h2, List.append_assoc, ← List.filter_append]; rfl
end
end L02
end Mine

-- R5
set_option autoImplicit false
set_option maxRecDepth 100000
namespace Mine
open PySem
namespace L02
theorem words_len {fam : List Nat} : (words fam).length = fam.length := by unfold words; rw [List.length_map]
theorem matV_congr {n : Nat} {F G : Nat → Nat → Nat} (h : ∀ i j, i < n → j < n → F i j = G i j) : matV n F = matV n G := by
  unfold matV
  exact congrArg V.lst (List.map_congr_left fun i hi => congrArg V.lst (List.map_congr_left fun j hj => congrArg nI (h i j (List.mem_range.mp hi) (List.mem_range.mp hj))))
theorem mat_eq (P : List (List Nat)) : matV P.length (unM P) = .lst ((P.map fun a => P.map fun b => unl a b).map fun xs => .lst (xs.map nI)) := by
  unfold matV
  rw [List.map_map, ← map_getD (d := []) P]
  refine congrArg V.lst (List.map_congr_left fun i _ => congrArg V.lst ?_)
  rw [List.map_map, ← map_getD (d := []) P]; rfl
theorem idx_last {H : Hp} {q : Nat} {l : List V} {v : V} (hq : q < l.length) (h : l[l.length - q - 1]? = some v) (hn : l.length ≤ 2 ^ 16) : idxV H (.lst l) (-(q : Int) - 1) = some v := (bd_eq (place_neg hq hn)).trans h
theorem wd_asc {m : Nat} : asc (wd m) = true := wd_gs.asc
theorem sl_1 {H : Hp} {m : Nat} : slV H (.str (wd m)) (.int 1) .none = some (.str (spS m [1, 2, 3])) := rfl
theorem sl_3 {H : Hp} {m : Nat} : slV H (.str (wd m)) .none (.int 3) = some (.str (spS m [0, 1, 2])) := rfl
theorem sl_13 {H : Hp} {m : Nat} : slV H (.str (wd m)) (.int 1) (.int 3) = some (.str (spS m [1, 2])) := rfl

section
variable {Φ : Fns} {x0 x1 x3 x4 x5 x8 x11 x13 x14 x15 x16 x17 x20 x21 x22 x23 x24 : Option V} {H : Hp} {fam : List Nat} (C : Calls Φ)
include C
theorem told_ck (hl : fam.length ≤ 2 ^ 10) : ev Φ (.cmp .ne (.var 17) (.comp false (.comp false (.call 15 (.cons (.var 19) (.cons (.var 18) .nil))) (.one 18) .plain (.var 16) (.k .none) [18] false (.k .none)) (.one 19) .plain (.var 16) (.k .none) [19] false (.k .none))) (E x0 x1 x3 x4 x5 x8 x11 x13 x14 x15 (some (.lst ((words fam).map V.str))) (some (matV fam.length (unM (words fam)))) x20 x21 x22 x23 x24) H = some (.bool false, H) := by
  have wl := words_len (fam := fam)
  have hw : ∀ u ∈ words fam, asc u = true ∧ u.length ≤ 100 := fun u hu => by
    obtain ⟨m, _, rfl⟩ := List.mem_map.mp hu
    exact ⟨wd_asc, Nat.le_trans wd_gs.2 (by decide)⟩
  have eo := ev_cmap (Φ := Φ) (m := false) (elt := (.comp false (.call 15 (.cons (.var 19) (.cons (.var 18) .nil))) (.one 18) .plain (.var 16) (.k .none) [18] false (.k .none))) (t := .one 19) (gn := .plain) (cl := [19]) (ρ := E x0 x1 x3 x4 x5 x8 x11 x13 x14 x15 (some (.lst ((words fam).map V.str))) (some (matV fam.length (unM (words fam)))) x20 x21 x22 x23 x24) (H := H) (a := .var 16) (b := .k .none) (xs := words fam) (k := V.str) (g := fun a => .lst ((words fam).map fun b => nI (unl a b)))
    (ev_var' rfl) ev_k' srcStrs fun u hu => by
    refine ⟨_, rfl, (ev_cmap (xs := words fam) (k := V.str) (g := fun b => nI (unl u b)) (ev_var' rfl) ev_k' srcStrs fun w hw' => ?_).trans (mkL_false (by rw [List.length_map]; omega))⟩
    exact ⟨_, rfl, ev_call2 (ev_var' rfl) (ev_var' rfl) (C.un u w _ (hw u hu).1 (hw w hw').1 (hw u hu).2)⟩
  rw [mkL_false (by rw [List.length_map]; omega), show ((words fam).map fun a => V.lst ((words fam).map fun b => nI (unl a b))) = (((words fam).map fun a => (words fam).map fun b => unl a b).map fun xs => .lst (xs.map nI)) by rw [List.map_map]; exact List.map_congr_left fun a _ => congrArg V.lst (show ((words fam).map fun b => nI (unl a b)) = ((words fam).map fun b => unl a b).map nI by rw [List.map_map]; rfl)] at eo
  have hM := mat_eq (words fam)
  rw [wl] at hM
  refine ev_cmp' (op := .ne) (ev_var' (x := 17) rfl) eo ?_
  rw [hM]
  exact om_eq eqV_natss
theorem far_ck {a b : Nat} (h : levP (spS a [1, 2, 3]) (spS b [0, 1, 2]) 6 = 4 + unl (spS a [1, 2]) (spS b [1, 2])) : ev Φ (.cmp .ne (.call 11 (.cons (.sl (.var 20) (.k (.int 1)) (.k .none)) (.cons (.sl (.var 21) (.k .none) (.k (.int 3))) (.cons (.k (.int 6)) .nil)))) (.bin .add (.k (.int 4)) (.call 15 (.cons (.sl (.var 20) (.k (.int 1)) (.k (.int 3))) (.cons (.sl (.var 21) (.k (.int 1)) (.k (.int 3))) .nil))))) (E x0 x1 x3 x4 x5 x8 x11 x13 x14 x15 x16 x17 (some (.str (wd a))) (some (.str (wd b))) x22 x23 x24) H = some (.bool false, H) := by
  have g1 := sp_gs (n := a) (ps := [1, 2, 3]) (by decide) (by decide)
  have g2 := sp_gs (n := b) (ps := [0, 1, 2]) (by decide) (by decide)
  have g3 := sp_gs (n := a) (ps := [1, 2]) (by decide) (by decide)
  have g4 := sp_gs (n := b) (ps := [1, 2]) (by decide) (by decide)
  have ca := C.lev (spS a [1, 2, 3]) (spS b [0, 1, 2]) 6 H g1.asc g2.asc (Nat.le_of_ble_eq_true rfl) (Nat.le_of_ble_eq_true rfl)
  have cb := C.un (spS a [1, 2]) (spS b [1, 2]) H g3.asc g4.asc (Nat.le_of_ble_eq_true rfl)
  exact ev_cmp' (op := .ne) (ev_call3 (ev_sl' (ev_var' rfl) ev_k' ev_k' sl_1) (ev_sl' (ev_var' rfl) ev_k' ev_k' sl_3) ev_k' ca) (ev_bin' (op := .add) ev_k' (ev_call2 (ev_sl' (ev_var' rfl) ev_k' ev_k' sl_13) (ev_sl' (ev_var' rfl) ev_k' ev_k' sl_13) cb) (add_nI 4 _))
    (om_eq (eqV_int (H := H)) |>.trans (congrArg (fun b => some (!b)) (decide_eq_true (congrArg Int.ofNat h))))
theorem far0_ck {a b : Nat} (hl : fam.length ≤ 2 ^ 10) (h : levP (wd a) (wd b) 0 = if fam.length > 1 then 1 else 0) : ev Φ (.cmp .ne (.call 11 (.cons (.var 20) (.cons (.var 21) (.cons (.k (.int 0)) .nil)))) (.ite (.cmp .gt (.b1 .len (.var 16)) (.k (.int 1))) (.k (.int 1)) (.k (.int 0)))) (E x0 x1 x3 x4 x5 x8 x11 x13 x14 x15 (some (.lst ((words fam).map V.str))) x17 (some (.str (wd a))) (some (.str (wd b))) x22 x23 x24) H = some (.bool false, H) := by
  have ca := C.lev (wd a) (wd b) 0 H wd_asc wd_asc (Nat.le_of_ble_eq_true rfl) (Nat.le_of_ble_eq_true rfl)
  have wl := words_len (fam := fam)
  have el := ev_b1' (Φ := Φ) (f := .len) (a := .var 16) (ρ := E x0 x1 x3 x4 x5 x8 x11 x13 x14 x15 (some (.lst ((words fam).map V.str))) x17 (some (.str (wd a))) (some (.str (wd b))) x22 x23 x24) (H := H) (ev_var' rfl) (len_lst (by rw [List.length_map]; omega))
  rw [List.length_map, wl] at el
  have cg := ev_cmp' (Φ := Φ) (op := .gt) (b := .k (.int 1)) el ev_k' rfl
  have ci : ev Φ (.ite (.cmp .gt (.b1 .len (.var 16)) (.k (.int 1))) (.k (.int 1)) (.k (.int 0))) (E x0 x1 x3 x4 x5 x8 x11 x13 x14 x15 (some (.lst ((words fam).map V.str))) x17 (some (.str (wd a))) (some (.str (wd b))) x22 x23 x24) H = some (nI (if fam.length > 1 then 1 else 0), H) := by
    by_cases h1 : fam.length > 1
    · rw [decide_eq_true (show (fam.length : Int) > 1 by omega)] at cg
      rw [if_pos h1]; exact (ev_ite_t cg rfl).trans ev_k'
    · rw [decide_eq_false (show ¬ (fam.length : Int) > 1 by omega)] at cg
      rw [if_neg h1]; exact (ev_ite_f cg rfl).trans ev_k'
  exact ev_cmp' (op := .ne) (ev_call3 (ev_var' rfl) (ev_var' rfl) ev_k' ca) ci (om_eq (eqV_int (H := H)) |>.trans (congrArg (fun b => some (!b)) (decide_eq_true (congrArg Int.ofNat h))))
theorem given_run {N : List Nat} {G : Hp} (hN : ∀ x ∈ N, x < 1000000) (hNl : N.length ≤ 64) (he : (ents (rowsS fam)).length ≤ 2 ^ 16) (left : ∀ t ∈ twos, ((ents (rowsS fam)).filter fun p => decide (low p.1 = low (sp2 (15 * (N.sum % 2)) t))).map (·.2) = fam.map fun m => sp2 m t) :
    ev Φ (.comp false (.call 5 (.cons (.var 13) (.cons (.call 14 (.cons (.bin .mul (.k (.int 15)) (.bin .mod (.b1 .sum (.var 1)) (.k (.int 2)))) (.cons (.var 12) .nil))) .nil))) (.one 12) .plain (.var 8) (.k .none) [12] false (.k .none)) (E x0 (some (.lst (N.map nI))) x3 x4 x5 (some (.lst (twos.map tV))) x11 (some (.hdr (.cell 0))) x14 x15 x16 x17 x20 x21 x22 x23 x24) ((ents (rowsS fam)).map ent :: G) = some (.lst ((gv fam).map sV), (ents (rowsS fam)).map ent :: G) := by
  have hpar : 15 * (N.sum % 2) ≤ 2 ^ 20 := by omega
  have gs : ∀ p ∈ ents (rowsS fam), GS p.1 := fun p hp => by
    obtain ⟨r, hr, hp⟩ := List.mem_flatMap.mp hp
    obtain ⟨s, hs, rfl⟩ := List.mem_map.mp hp
    obtain ⟨m, _, rfl⟩ := List.mem_map.mp hr
    obtain ⟨t, ht, rfl⟩ := List.mem_map.mp hs
    exact sp2_gs ht
  refine (ev_cmap (xs := twos) (k := tV) (g := fun t => sV (fam.map fun m => sp2 m t)) (ev_var' rfl) ev_k' srcStrs fun t ht => ⟨_, rfl, ev_call2 (ev_var' rfl) (ev_call2 (ev_bin' (op := .mul) (a := .k (.int 15)) ev_k' (ev_bin' (op := .mod) (b := .k (.int 2)) (ev_b1' (f := .sum) (a := .var 1) (ev_var' rfl) (sum_run hN hNl)) ev_k' (mod_nI (b := 2) (by decide))) (mul_nI (a := 15) (by decide) (by omega))) (ev_var' rfl) (sp2_run C hpar ht)) ?_⟩).trans ((mkL_false (Nat.le_of_ble_eq_true rfl)).trans rfl)
  refine (C.ga _ (.cell 0) _ (ents (rowsS fam)) rfl gs (sp2_gs ht) he).trans ?_
  rw [← left t ht]
  exact congrArg (fun l => some (V.lst l, _)) (List.map_map ..).symm
omit C in
theorem given_ck (hl : fam.length ≤ 2 ^ 10) : ev Φ (.cmp .ne (.var 22) (.comp false (.comp false (.idx (.var 14) (.var 6)) (.one 14) .plain (.var 11) (.k .none) [14] false (.k .none)) (.one 6) .plain (.b1 .range (.b1 .len (.var 8))) (.k .none) [6] false (.k .none))) (E x0 x1 x3 x4 x5 (some (.lst (twos.map tV))) (some (.lst ((rowsS fam).map sV))) x13 x14 x15 x16 x17 x20 x21 (some (.lst ((gv fam).map sV))) x23 x24) H = some (.bool false, H) := by
  have rl : (rowsS fam).length = fam.length := by unfold rowsS; rw [List.length_map]
  have e := ev_cmap (Φ := Φ) (m := false) (elt := (.comp false (.idx (.var 14) (.var 6)) (.one 14) .plain (.var 11) (.k .none) [14] false (.k .none))) (t := .one 6) (gn := .plain) (cl := [6]) (ρ := E x0 x1 x3 x4 x5 (some (.lst (twos.map tV))) (some (.lst ((rowsS fam).map sV))) x13 x14 x15 x16 x17 x20 x21 (some (.lst ((gv fam).map sV))) x23 x24) (H := H) (a := .b1 .range (.b1 .len (.var 8))) (b := .k .none) (xs := List.range' 0 6) (k := nI) (g := fun p => .lst ((rowsS fam).map fun r => .str (r.getD p [])))
    (ev_b1' (f := .range) (r := .rng ((6 : Nat) : Int)) (ev_b1' (f := .len) (ev_var' rfl) (len_lst (Nat.le_of_ble_eq_true rfl))) rfl) ev_k' (srcRng (by decide)) fun p hp => by
    rw [List.mem_range'_1] at hp
    refine ⟨_, rfl, (ev_cmap (xs := rowsS fam) (k := sV) (g := fun r => .str (r.getD p [])) (ev_var' rfl) ev_k' srcStrs fun r hr => ⟨_, rfl, ev_idx' (ev_var' rfl) (ev_var' rfl) ?_⟩).trans (mkL_false (by rw [List.length_map]; omega))⟩
    obtain ⟨m, _, rfl⟩ := List.mem_map.mp hr
    have hlen : (twos.map (sp2 m)).length = 6 := rfl
    refine idx_lst ?_ (Nat.le_of_ble_eq_true rfl)
    rw [List.getElem?_map, List.getD_eq_getElem?_getD, List.getElem?_eq_getElem (show p < (twos.map (sp2 m)).length by omega)]; rfl
  have hg : ((List.range' 0 6).map fun p => V.lst ((rowsS fam).map fun r => V.str (r.getD p []))) = (gv fam).map sV := by
    have h1 := map_getD (d := (0, 0)) (f := fun t => sV (fam.map fun m => sp2 m t)) twos
    have h2 : (gv fam).map sV = twos.map fun t => sV (fam.map fun m => sp2 m t) := by unfold gv; rw [List.map_map]; rfl
    rw [h2, ← h1, show twos.length = 6 from rfl, List.range_eq_range']
    refine List.map_congr_left fun p hp => congrArg V.lst ?_
    rw [List.mem_range'_1] at hp
    unfold rowsS
    rw [List.map_map, List.map_map]
    refine List.map_congr_left fun m _ => congrArg V.str ?_
    show (twos.map (sp2 m)).getD p [] = sp2 m (twos.getD p (0, 0))
    rw [List.getD_eq_getElem?_getD, List.getD_eq_getElem?_getD, List.getElem?_map, List.getElem?_eq_getElem (show p < twos.length from hp.2)]; rfl
  rw [mkL_false (Nat.le_of_ble_eq_true rfl), hg] at e
  refine ev_cmp' (op := .ne) (ev_var' (x := 22) rfl) e (om_eq (eqV_strss fun g hg s hs => ?_))
  obtain ⟨t, ht, rfl⟩ := List.mem_map.mp hg
  obtain ⟨m, _, rfl⟩ := List.mem_map.mp hs
  exact (sp2_gs ht).asc
theorem ret_run {k : Nat} (h16 : ∀ m ∈ fam, m < 16) (nd : fam.Nodup) (hl : fam.length < 64) (hk : H[k]? = some ((allowed fam).map nI)) : ev Φ (.cmp .eq (.call 18 (.cons (.var 17) .nil)) (.cmp .eq (.var 23) (.b1 .sorted (.var 5)))) (E x0 x1 x3 x4 (some (.lst (fam.map nI))) x8 x11 x13 x14 x15 x16 (some (matV fam.length (unM (words fam)))) x20 x21 x22 (some (.cell k)) x24) H = some (.bool true, H) := by
  have e := ev_cmp' (Φ := Φ) (op := .eq) (ρ := E x0 x1 x3 x4 (some (.lst (fam.map nI))) x8 x11 x13 x14 x15 x16 (some (matV fam.length (unM (words fam)))) x20 x21 x22 (some (.cell k)) x24) (H := H) (a := .call 18 (.cons (.var 17) .nil)) (b := .cmp .eq (.var 23) (.b1 .sorted (.var 5))) (ev_call1 (ev_var' rfl) (C.mid fam.length (unM (words fam)) H (by omega))) (ev_cmp' (op := .eq) (ev_var' rfl) (ev_b1' (f := .sorted) (ev_var' rfl) (srt_run h16 nd hl)) (eqV_cnats hk)) eqV_bool
  rw [fin_ok h16, beq_self_eq_true] at e
  exact e
end
end L02
end Mine

-- R6
set_option autoImplicit false
set_option maxRecDepth 100000
namespace Mine
open PySem
namespace L02
theorem ents_len (fam : List Nat) : (ents (rowsS fam)).length = 6 * fam.length := by
  unfold ents rowsS
  induction fam with
  | nil => rfl
  | cons m l ih =>
    rw [List.map_cons, List.flatMap_cons, List.length_append, ih, List.length_map, List.length_map, List.length_cons, show twos.length = 6 from rfl]; omega
theorem rows_gs {fam : List Nat} : ∀ r ∈ rowsS fam, ∀ s ∈ r, GS s := fun r hr s hs => by
  obtain ⟨m, _, rfl⟩ := List.mem_map.mp hr
  obtain ⟨t, ht, rfl⟩ := List.mem_map.mp hs
  exact sp2_gs ht
noncomputable abbrev lawTail : PSs := (.cons (.ifs (.cmp .ne (.call 7 (.cons (.var 13) .nil)) (.comp2 (.tup (.cons (.var 15) (.cons (.var 15) .nil))) (.one 14) (.var 11) (.one 15) (.var 14) [14, 15])) (.cons (.ret (.k (.bool false))) .nil) .nil) (.cons (.assign 16 (.comp false (.call 14 (.cons (.var 7) (.cons (.b1 .range (.k (.int 4))) .nil))) (.one 7) .plain (.var 5) (.k .none) [7] false (.k .none))) (.cons (.assign 17 (.call 16 (.cons (.var 16) .nil))) (.cons (.ifs (.cmp .ne (.var 17) (.comp false (.comp false (.call 15 (.cons (.var 19) (.cons (.var 18) .nil))) (.one 18) .plain (.var 16) (.k .none) [18] false (.k .none)) (.one 19) .plain (.var 16) (.k .none) [19] false (.k .none))) (.cons (.ret (.k (.bool false))) .nil) .nil) (.cons (.tup 20 21 (.tup (.cons (.idx (.var 16) (.k (.int 0))) (.cons (.idx (.var 16) (.neg (.k (.int 1)))) .nil)))) (.cons (.ifs (.cmp .ne (.call 11 (.cons (.sl (.var 20) (.k (.int 1)) (.k .none)) (.cons (.sl (.var 21) (.k .none) (.k (.int 3))) (.cons (.k (.int 6)) .nil)))) (.bin .add (.k (.int 4)) (.call 15 (.cons (.sl (.var 20) (.k (.int 1)) (.k (.int 3))) (.cons (.sl (.var 21) (.k (.int 1)) (.k (.int 3))) .nil))))) (.cons (.ret (.k (.bool false))) .nil) .nil) (.cons (.ifs (.cmp .ne (.call 11 (.cons (.var 20) (.cons (.var 21) (.cons (.k (.int 0)) .nil)))) (.ite (.cmp .gt (.b1 .len (.var 16)) (.k (.int 1))) (.k (.int 1)) (.k (.int 0)))) (.cons (.ret (.k (.bool false))) .nil) .nil) (.cons (.assign 22 (.comp false (.call 5 (.cons (.var 13) (.cons (.call 14 (.cons (.bin .mul (.k (.int 15)) (.bin .mod (.b1 .sum (.var 1)) (.k (.int 2)))) (.cons (.var 12) .nil))) .nil))) (.one 12) .plain (.var 8) (.k .none) [12] false (.k .none))) (.cons (.ifs (.cmp .ne (.var 22) (.comp false (.comp false (.idx (.var 14) (.var 6)) (.one 14) .plain (.var 11) (.k .none) [14] false (.k .none)) (.one 6) .plain (.b1 .range (.b1 .len (.var 8))) (.k .none) [6] false (.k .none))) (.cons (.ret (.k (.bool false))) .nil) .nil) (.cons (.assign 23 (.lst true .nil)) (.cons (.loop (.one 4) .plain (.b1 .range (.k (.int 16))) (.k .none) (.cons (.assign 24 (.comp false (.var 12) (.two 12 14) .zip (.var 8) (.var 22) [12, 14] true (.cmp .nmem (.call 14 (.cons (.var 4) (.cons (.var 12) .nil))) (.var 14)))) (.cons (.aug 23 .add (.ite (.cmp .eq (.var 24) (.lst false .nil)) (.lst false (.cons (.var 4) .nil)) (.lst false .nil))) .nil))) (.cons (.ret (.cmp .eq (.call 18 (.cons (.var 17) .nil)) (.cmp .eq (.var 23) (.b1 .sorted (.var 5))))) .nil))))))))))))
section
variable {Φ : Fns} (C : Calls Φ)
include C
theorem tail_run {sc : V} {dr x14 x15 : Option V} {N fam : List Nat} {G : Hp} (hN : ∀ x ∈ N, x < 1000000) (hNl : N.length ≤ 64) (hl : fam.length ≤ 5) (ok : LawOk fam (15 * (N.sum % 2))) :
    ∃ y4 y24 H', exs Φ lawTail (E (some sc) (some (.lst (N.map nI))) dr none (some (.lst (fam.map nI))) (some (.lst (twos.map tV))) (some (.lst ((rowsS fam).map sV))) (some (.hdr (.cell 0))) x14 x15 none none none none none none none) ((ents (rowsS fam)).map ent :: G) = some (.rt (.bool true), E (some sc) (some (.lst (N.map nI))) dr y4 (some (.lst (fam.map nI))) (some (.lst (twos.map tV))) (some (.lst ((rowsS fam).map sV))) (some (.hdr (.cell 0))) x14 x15 (some (.lst ((words fam).map V.str))) (some (matV fam.length (unM (words fam)))) (some (.str (wd (fam.getD 0 0)))) (some (.str (wd (fam.getD (fam.length - 1) 0)))) (some (.lst ((gv fam).map sV))) (some (.cell ((ents (rowsS fam)).map ent :: G).length)) y24, H') := by
  have he : (ents (rowsS fam)).length ≤ 2 ^ 16 := by rw [ents_len]; omega
  have hn0 : 0 < fam.length := List.length_pos_iff.mpr ok.ne
  have wl := words_len (fam := fam)
  have etold := C.told (words fam) ((ents (rowsS fam)).map ent :: G) (fun p hp => by
    obtain ⟨m, _, rfl⟩ := List.mem_map.mp hp
    exact ⟨wd_asc, (show (wd m).length ≤ 40 from Nat.le_of_ble_eq_true rfl)⟩) (by omega)
  rw [wl, matV_congr ok.told] at etold
  have gt : ∀ {i : Nat}, i < fam.length → ((words fam).map V.str)[i]? = some (.str (wd (fam.getD i 0))) := fun {i} hi => by
    rw [← wd_get hi, List.getElem?_map, List.getD_eq_getElem?_getD, List.getElem?_eq_getElem (show i < (words fam).length by omega)]; rfl
  have hlen : ((words fam).map V.str).length = fam.length := by rw [List.length_map, wl]
  have i0 : idxV ((ents (rowsS fam)).map ent :: G) (.lst ((words fam).map V.str)) ((0 : Nat) : Int) = some (.str (wd (fam.getD 0 0))) := idx_lst (gt hn0) (by omega)
  have i1 : idxV ((ents (rowsS fam)).map ent :: G) (.lst ((words fam).map V.str)) (-((0 : Nat) : Int) - 1) = some (.str (wd (fam.getD (fam.length - 1) 0))) := idx_last (by omega) (by rw [hlen]; exact gt (by omega)) (by omega)
  have hk : (((ents (rowsS fam)).map ent :: G) ++ [[]])[((ents (rowsS fam)).map ent :: G).length]? = some (([] : List Nat).map nI) := by
    rw [List.getElem?_append_right (Nat.le_refl _), Nat.sub_self]; rfl
  obtain ⟨y4, y24, H', el, hk'⟩ := al_loop C (x0 := some sc) (x1 := some (.lst (N.map nI))) (x3 := dr) (x5 := some (.lst (fam.map nI))) (x11 := some (.lst ((rowsS fam).map sV))) (x13 := some (.hdr (.cell 0))) (x14 := x14) (x15 := x15) (x16 := some (.lst ((words fam).map V.str))) (x17 := some (matV fam.length (unM (words fam)))) (x20 := some (.str (wd (fam.getD 0 0)))) (x21 := some (.str (wd (fam.getD (fam.length - 1) 0)))) (fam := fam)
    (k := ((ents (rowsS fam)).map ent :: G).length) (st := stableV (.rng ((16 : Nat) : Int)) (((ents (rowsS fam)).map ent :: G) ++ [[]])) (fun _ => rfl) (List.range' 0 16) (((ents (rowsS fam)).map ent :: G) ++ [[]]) [] none none (fun n hn => by rw [List.mem_range'_1] at hn; omega) hk (by decide)
  have h16 := ok.h16
  refine ⟨y4, y24, H', ?_⟩
  refine (exs_nx ((ex_ifs_f (items_ck C rows_gs he) rfl).trans exs_nil)).trans ((exs_nx (ex_assign (words_run C h16 (by omega)))).trans ((exs_nx (ex_assign (ev_call1 (ev_var' rfl) etold))).trans ((exs_nx ((ex_ifs_f (told_ck C (by omega)) rfl).trans exs_nil)).trans ?_)))
  refine (exs_nx (ex_tup' (ev_tup2 (ev_idx' (ev_var' rfl) ev_k' i0) (ev_idx' (ev_var' rfl) (show ev Φ (.neg (.k (.int 1))) _ _ = some (.int (-((0 : Nat) : Int) - 1), _) from obI_eq ev_k') i1)))).trans ?_
  refine (exs_nx ((ex_ifs_f (far_ck C ok.far) rfl).trans exs_nil)).trans ((exs_nx ((ex_ifs_f (far0_ck C (by omega) ok.far0) rfl).trans exs_nil)).trans ?_)
  refine (exs_nx (ex_assign (given_run C hN hNl he ok.left))).trans ((exs_nx ((ex_ifs_f (given_ck (by omega)) rfl).trans exs_nil)).trans ?_)
  refine (exs_nx (ex_assign ((ev_lst' evs_nil').trans (mkL_true (by decide))))).trans ?_
  refine (exs_nx ((ex_loop (ev_b1' (f := .range) ev_k' (r := .rng ((16 : Nat) : Int)) rfl) ev_k' (srcRng (by decide))).trans el)).trans ?_
  exact exs_rt (ex_ret (ret_run C h16 ok.nd (by omega) hk'))

noncomputable def famOf (ns : List Int) : List Nat := nub 0 ((numsOf 5 [1, 2, 4, 6, 12] ns).map fun n => n % 16)
noncomputable def parOf (ns : List Int) : Nat := 15 * ((numsOf 5 [1, 2, 4, 6, 12] ns).sum % 2)
theorem law_run {ns : List Int} (hn : ns.length ≤ 63) (hf : (famOf ns).length ≤ 5) (ok : LawOk (famOf ns) (parOf ns)) : ∃ H', runF Φ p_law (E (some (.lst (ns.map V.int))) none none none none none none none none none none none none none none none none) [] = some (.bool true, H') := by
  have nl := nums_len (k := 5) (d := [1, 2, 4, 6, 12]) (ns := ns) rfl
  have nb := nums_lt (k := 5) (d := [1, 2, 4, 6, 12]) (ns := ns) (by decide)
  have e1 := nums_run (Φ := Φ) (ρ := E (some (.lst (ns.map V.int))) none none none none none none none none none none none none none none none none) (H := []) (ns := ns) (k := 5) (x := 2) (d := [1, 2, 4, 6, 12]) (dl := .lst false (.cons (.k (.int 1)) (.cons (.k (.int 2)) (.cons (.k (.int 4)) (.cons (.k (.int 6)) (.cons (.k (.int 12)) .nil)))))) (fun v => ⟨_, rfl, rfl⟩) rfl hn (by decide) (by decide)
    ((ev_lst' (evs_cons' ev_k' (evs_cons' ev_k' (evs_cons' ev_k' (evs_cons' ev_k' (evs_cons' ev_k' evs_nil')))))).trans rfl)
  unfold famOf parOf at *
  generalize numsOf 5 [1, 2, 4, 6, 12] ns = N at *
  have e3 := ev_cmap (Φ := Φ) (m := false) (elt := .bin .mod (.var 4) (.k (.int 16))) (t := .one 4) (gn := .plain) (cl := [4]) (ρ := E (some (.lst (ns.map V.int))) (some (.lst (N.map nI))) none none none none none none none none none none none none none none none) (H := []) (a := .var 1) (b := .k .none) (xs := N) (k := nI) (g := fun n => nI (n % 16)) (ev_var' rfl) ev_k' srcStrs fun n _ => ⟨_, rfl, ev_bin' (op := .mod) (ev_var' rfl) ev_k' (mod_nI (b := 16) (by decide))⟩
  rw [mkL_false (by rw [List.length_map]; omega), show (N.map fun n => nI (n % 16)) = (N.map fun n => n % 16).map nI by rw [List.map_map]; rfl] at e3
  have e5 := nub_run (Φ := Φ) (ρ := E (some (.lst (ns.map V.int))) (some (.lst (N.map nI))) (some (.lst ((N.map fun n => n % 16).map nI))) none none none none none none none none none none none none none none) (H := []) (i := 6) (e := 7) (s := 3) (l := N.map fun n => n % 16) (k := nI) (d := 0) rfl (fun u w => ⟨_, rfl, rfl, rfl, rfl⟩) (by rw [List.length_map]; omega) fun j hj => mem_nats
  have h16 := ok.h16
  generalize nub 0 (N.map fun n => n % 16) = fam at *
  have et := ev_call' (Φ := Φ) (f := 12) (ρ := E (some (.lst (ns.map V.int))) (some (.lst (N.map nI))) (some (.lst ((N.map fun n => n % 16).map nI))) none (some (.lst (fam.map nI))) (some (.lst (twos.map tV))) (some (.lst ((rowsS fam).map sV))) none none none none none none none none none none) (H := []) evs_nil' |>.trans (C.hdr [])
  obtain ⟨y14, y15, G', ea⟩ := add_out C (x0 := some (.lst (ns.map V.int))) (x1 := some (.lst (N.map nI))) (x3 := some (.lst ((N.map fun n => n % 16).map nI))) (x4 := none) (x5 := some (.lst (fam.map nI))) (x8 := some (.lst (twos.map tV))) (x11 := some (.lst ((rowsS fam).map sV))) (x16 := none) (x17 := none) (x20 := none) (x21 := none) (x22 := none) (x23 := none) (x24 := none)
    (st := stableV (.lst ((rowsS fam).map sV)) [[]]) (fun _ => rfl) (rowsS fam) [] [] none none rows_gs (by rw [ents_len, List.length_nil]; omega)
  rw [List.nil_append] at ea
  obtain ⟨_, _, H', ew⟩ := tail_run C (sc := .lst (ns.map V.int)) (dr := some (.lst ((N.map fun n => n % 16).map nI))) (x14 := y14) (x15 := y15) (G := G') nb (by omega) hf ok
  exact ⟨H', runF_rt ((exs_nx (ex_assign e1)).trans ((exs_nx (ex_assign e3)).trans ((exs_nx (ex_assign e5)).trans ((exs_nx (ex_assign twos_run)).trans ((exs_nx (ex_assign (rows_run C h16 (by omega)))).trans ((exs_nx (ex_assign et)).trans ((exs_nx ((ex_loop (ev_var' rfl) ev_k' srcStrs).trans ea)).trans ew)))))))⟩
end
theorem law_ok (ns : List Int) : (famOf ns).length ≤ 5 ∧ LawOk (famOf ns) (parOf ns) := by
  have nl := nums_len (k := 5) (d := [1, 2, 4, 6, 12]) (ns := ns) rfl
  unfold famOf parOf
  generalize numsOf 5 [1, 2, 4, 6, 12] ns = N at *
  refine ⟨Nat.le_trans nub_le (by rw [List.length_map]; omega), lawOk (fun m hm => ?_) nub_nodup (nub_ne fun h => ?_) ?_⟩
  · obtain ⟨n, _, rfl⟩ := List.mem_map.mp (nub_mem hm)
    exact Nat.mod_lt _ (by decide)
  · rw [List.map_eq_nil_iff] at h
    rw [h] at nl; cases nl
  · rcases Nat.mod_two_eq_zero_or_one N.sum with h | h <;> rw [h]
    · exact .inl rfl
    · exact .inr rfl
end L02
end Mine

-- the head
set_option Elab.async false
section
open PySem PySem.W PyProof.Rows
set_option maxHeartbeats 8000000
namespace Mine
open_top hd for PySem.Challenge.rw_pg0260_02
end Mine
end

-- J02
set_option autoImplicit false
set_option maxRecDepth 100000
namespace Mine
namespace L02
open PySem PySem.W PyProof.Rows

noncomputable def tab : Tab where
  fns := [("_substitution_cost", 10), ("_levenshtein_distance", 11), ("_law_spelled", 14), ("_law_unlike", 15), ("_law_told", 16), ("_law_between", 17), ("_law_middles", 18), ("Headers", 12)]
  meths := [("_convert_string_type", 0), ("get_all", 5), ("items", 7), ("add_header", 6)]
  nums := [("_MAX_STRING_SIZE", 40), ("_MOVE_COST", 2), ("_CASE_COST", 1)]
  pats := [("_name_disallowed_re", 0), ("_value_disallowed_re", 1)]
  kw := fun f => if f = 0 then ["name"] else []
noncomputable def dl : List (Nat × FD) := [(0, { nm := N_conv, p := p_conv, n := 3, d := 0, m := true }), (5, { nm := N_get_all, p := p_get_all, n := 2, d := 0, m := true }), (7, { nm := N_items, p := p_items, n := 1, d := 0, m := true }), (10, { nm := N_sub, p := p_sub, n := 2 }), (11, { nm := N_lev, p := p_lev, n := 3, loc := true }), (14, { nm := N_spelled, p := p_spelled, n := 2 }), (15, { nm := N_unlike, p := p_unlike, n := 2 }), (16, { nm := N_told, p := p_told, n := 1, loc := true }), (17, { nm := N_between, p := p_between, n := 4 }), (18, { nm := N_middles, p := p_middles, n := 1 })]
noncomputable def D (f : Nat) : Option FD := dl.lookup f
theorem sf (Φ : Fns) : SelfFree Φ N_init1.length p_init1 := init1_sf Φ
section
variable (P : Params)
noncomputable def K (P : Params) : Frag := hd.heap_39 P
theorem k_tab : chTab (K P) tab = true := by kernel_rfl
theorem k_cls : chCls (K P) = true := by kernel_rfl
theorem k_p0 : chPat (K P) (gA (K P) "_name_disallowed_re") codeN = true := by kernel_rfl
theorem k_p1 : chPat (K P) (gA (K P) "_value_disallowed_re") codeV = true := by kernel_rfl
theorem k_ini : chIni (K P) N_init1 = true := by kernel_rfl
theorem k_m1 : CkSs tab N_init1 p_init1 (fdOf (K P) (mA (K P) (gA (K P) "Headers") "__init__")).scope ((bodyOf (fdOf (K P) (mA (K P) (gA (K P) "Headers") "__init__"))).take 2) := ckSs fun c t => by kernel_rfl
theorem k_m2 : CkSs tab N_init1 p_init2 (fdOf (K P) (mA (K P) (gA (K P) "Headers") "__init__")).scope ((bodyOf (fdOf (K P) (mA (K P) (gA (K P) "Headers") "__init__"))).drop 3) := ckSs fun c t => by kernel_rfl
theorem k_b0_q (x : Value) : BindC (K P) (fdOf (K P) (mA (K P) (gA (K P) "Headers") "__init__")) ⟨[x], []⟩ [("self", x), ("headers", .none)] := fun S => by kernel_rfl
theorem k_b0 (s : Shared) (x : Value) (X : (K P).In s.heap) : BindS s (fdOf (K P) (mA (K P) (gA (K P) "Headers") "__init__")) ⟨[x], []⟩ [("self", x), ("headers", .none)] := @bindC (K P) s (fdOf (K P) (mA (K P) (gA (K P) "Headers") "__init__")) ⟨[x], []⟩ [("self", x), ("headers", .none)] X (k_b0_q P x)
theorem k_b1_q (x y : Value) : BindC (K P) (fdOf (K P) (mA (K P) (gA (K P) "Headers") "__init__")) ⟨[x, y], []⟩ [("self", x), ("headers", y)] := fun S => by kernel_rfl
theorem k_b1 (s : Shared) (x y : Value) (X : (K P).In s.heap) : BindS s (fdOf (K P) (mA (K P) (gA (K P) "Headers") "__init__")) ⟨[x, y], []⟩ [("self", x), ("headers", y)] := @bindC (K P) s (fdOf (K P) (mA (K P) (gA (K P) "Headers") "__init__")) ⟨[x, y], []⟩ [("self", x), ("headers", y)] X (k_b1_q P x y)
theorem k_f0_v : fvIs (K P) tab 0 (mA (K P) (gA (K P) "Headers") "_convert_string_type") = true := by kernel_rfl
theorem k_f0_f : chFn (K P) N_conv (mA (K P) (gA (K P) "Headers") "_convert_string_type") ["self", "value", "name"] = true := by kernel_rfl
theorem k_f0_m : CkSs tab N_conv p_conv (fdOf (K P) (mA (K P) (gA (K P) "Headers") "_convert_string_type")).scope (bodyOf (fdOf (K P) (mA (K P) (gA (K P) "Headers") "_convert_string_type"))) := ckSs fun c t => by kernel_rfl
theorem k_f0_q (x y k1 : Value) : BindC (K P) (fdOf (K P) (mA (K P) (gA (K P) "Headers") "_convert_string_type")) ⟨[x, y], (["name"] : List Str).zip [k1]⟩ ((["self", "value", "name"] : List Str).zip (([x, y] ++ [k1]) ++ List.replicate 0 .none)) := fun S => by kernel_rfl
theorem k_f0_b (s : Shared) (vs ks : List Value) (X : (K P).In s.heap) (h1 : (vs ++ ks).length = 3) (h2 : ks.length = (["name"] : List Str).length) : BindS s (fdOf (K P) (mA (K P) (gA (K P) "Headers") "_convert_string_type")) ⟨vs, (["name"] : List Str).zip ks⟩ ((["self", "value", "name"] : List Str).zip ((vs ++ ks) ++ List.replicate 0 .none)) := by
  rw [List.length_append] at h1
  obtain ⟨x, y, rfl⟩ := len2 (l := vs) (by have h3 : ks.length = 1 := h2; omega)
  obtain ⟨k1, rfl⟩ := len1 h2
  exact @bindC (K P) s (fdOf (K P) (mA (K P) (gA (K P) "Headers") "_convert_string_type")) ⟨[x, y], (["name"] : List Str).zip [k1]⟩ ((["self", "value", "name"] : List Str).zip (([x, y] ++ [k1]) ++ List.replicate 0 .none)) X (k_f0_q P x y k1)
theorem k_f0 : FnK (K P) tab 0 N_conv p_conv 3 0 ["name"] (mA (K P) (gA (K P) "Headers") "_convert_string_type") ["self", "value", "name"] := ⟨k_f0_v P, k_f0_f P, k_f0_m P, by decide, k_f0_b P⟩
theorem k_f5_v : fvIs (K P) tab 5 (mA (K P) (gA (K P) "Headers") "get_all") = true := by kernel_rfl
theorem k_f5_f : chFn (K P) N_get_all (mA (K P) (gA (K P) "Headers") "get_all") ["self", "name"] = true := by kernel_rfl
theorem k_f5_m : CkSs tab N_get_all p_get_all (fdOf (K P) (mA (K P) (gA (K P) "Headers") "get_all")).scope (bodyOf (fdOf (K P) (mA (K P) (gA (K P) "Headers") "get_all"))) := ckSs fun c t => by kernel_rfl
theorem k_f5_q (x y : Value) : BindC (K P) (fdOf (K P) (mA (K P) (gA (K P) "Headers") "get_all")) ⟨[x, y], ([] : List Str).zip []⟩ ((["self", "name"] : List Str).zip (([x, y] ++ []) ++ List.replicate 0 .none)) := fun S => by kernel_rfl
theorem k_f5_b (s : Shared) (vs ks : List Value) (X : (K P).In s.heap) (h1 : (vs ++ ks).length = 2) (h2 : ks.length = ([] : List Str).length) : BindS s (fdOf (K P) (mA (K P) (gA (K P) "Headers") "get_all")) ⟨vs, ([] : List Str).zip ks⟩ ((["self", "name"] : List Str).zip ((vs ++ ks) ++ List.replicate 0 .none)) := by
  rw [List.length_append] at h1
  obtain ⟨x, y, rfl⟩ := len2 (l := vs) (by have h3 : ks.length = 0 := h2; omega)
  obtain rfl := len0 h2
  exact @bindC (K P) s (fdOf (K P) (mA (K P) (gA (K P) "Headers") "get_all")) ⟨[x, y], ([] : List Str).zip []⟩ ((["self", "name"] : List Str).zip (([x, y] ++ []) ++ List.replicate 0 .none)) X (k_f5_q P x y)
theorem k_f5 : FnK (K P) tab 5 N_get_all p_get_all 2 0 [] (mA (K P) (gA (K P) "Headers") "get_all") ["self", "name"] := ⟨k_f5_v P, k_f5_f P, k_f5_m P, by decide, k_f5_b P⟩
theorem k_f7_v : fvIs (K P) tab 7 (mA (K P) (gA (K P) "Headers") "items") = true := by kernel_rfl
theorem k_f7_f : chFn (K P) N_items (mA (K P) (gA (K P) "Headers") "items") ["self"] = true := by kernel_rfl
theorem k_f7_m : CkSs tab N_items p_items (fdOf (K P) (mA (K P) (gA (K P) "Headers") "items")).scope (bodyOf (fdOf (K P) (mA (K P) (gA (K P) "Headers") "items"))) := ckSs fun c t => by kernel_rfl
theorem k_f7_q (x : Value) : BindC (K P) (fdOf (K P) (mA (K P) (gA (K P) "Headers") "items")) ⟨[x], ([] : List Str).zip []⟩ ((["self"] : List Str).zip (([x] ++ []) ++ List.replicate 0 .none)) := fun S => by kernel_rfl
theorem k_f7_b (s : Shared) (vs ks : List Value) (X : (K P).In s.heap) (h1 : (vs ++ ks).length = 1) (h2 : ks.length = ([] : List Str).length) : BindS s (fdOf (K P) (mA (K P) (gA (K P) "Headers") "items")) ⟨vs, ([] : List Str).zip ks⟩ ((["self"] : List Str).zip ((vs ++ ks) ++ List.replicate 0 .none)) := by
  rw [List.length_append] at h1
  obtain ⟨x, rfl⟩ := len1 (l := vs) (by have h3 : ks.length = 0 := h2; omega)
  obtain rfl := len0 h2
  exact @bindC (K P) s (fdOf (K P) (mA (K P) (gA (K P) "Headers") "items")) ⟨[x], ([] : List Str).zip []⟩ ((["self"] : List Str).zip (([x] ++ []) ++ List.replicate 0 .none)) X (k_f7_q P x)
theorem k_f7 : FnK (K P) tab 7 N_items p_items 1 0 [] (mA (K P) (gA (K P) "Headers") "items") ["self"] := ⟨k_f7_v P, k_f7_f P, k_f7_m P, by decide, k_f7_b P⟩
theorem k_f10_v : fvIs (K P) tab 10 (gA (K P) "_substitution_cost") = true := by kernel_rfl
theorem k_f10_f : chFn (K P) N_sub (gA (K P) "_substitution_cost") ["ch_a", "ch_b"] = true := by kernel_rfl
theorem k_f10_m : CkSs tab N_sub p_sub (fdOf (K P) (gA (K P) "_substitution_cost")).scope (bodyOf (fdOf (K P) (gA (K P) "_substitution_cost"))) := ckSs fun c t => by kernel_rfl
theorem k_f10_q (x y : Value) : BindC (K P) (fdOf (K P) (gA (K P) "_substitution_cost")) ⟨[x, y], ([] : List Str).zip []⟩ ((["ch_a", "ch_b"] : List Str).zip (([x, y] ++ []) ++ List.replicate 0 .none)) := fun S => by kernel_rfl
theorem k_f10_b (s : Shared) (vs ks : List Value) (X : (K P).In s.heap) (h1 : (vs ++ ks).length = 2) (h2 : ks.length = ([] : List Str).length) : BindS s (fdOf (K P) (gA (K P) "_substitution_cost")) ⟨vs, ([] : List Str).zip ks⟩ ((["ch_a", "ch_b"] : List Str).zip ((vs ++ ks) ++ List.replicate 0 .none)) := by
  rw [List.length_append] at h1
  obtain ⟨x, y, rfl⟩ := len2 (l := vs) (by have h3 : ks.length = 0 := h2; omega)
  obtain rfl := len0 h2
  exact @bindC (K P) s (fdOf (K P) (gA (K P) "_substitution_cost")) ⟨[x, y], ([] : List Str).zip []⟩ ((["ch_a", "ch_b"] : List Str).zip (([x, y] ++ []) ++ List.replicate 0 .none)) X (k_f10_q P x y)
theorem k_f10 : FnK (K P) tab 10 N_sub p_sub 2 0 [] (gA (K P) "_substitution_cost") ["ch_a", "ch_b"] := ⟨k_f10_v P, k_f10_f P, k_f10_m P, by decide, k_f10_b P⟩
theorem k_f11_v : fvIs (K P) tab 11 (gA (K P) "_levenshtein_distance") = true := by kernel_rfl
theorem k_f11_f : chFn (K P) N_lev (gA (K P) "_levenshtein_distance") ["a", "b", "max_cost"] = true := by kernel_rfl
theorem k_f11_m : CkSs tab N_lev p_lev (fdOf (K P) (gA (K P) "_levenshtein_distance")).scope (bodyOf (fdOf (K P) (gA (K P) "_levenshtein_distance"))) := ckSs fun c t => by kernel_rfl
theorem k_f11_q (x y z : Value) : BindC (K P) (fdOf (K P) (gA (K P) "_levenshtein_distance")) ⟨[x, y, z], ([] : List Str).zip []⟩ ((["a", "b", "max_cost"] : List Str).zip (([x, y, z] ++ []) ++ List.replicate 0 .none)) := fun S => by kernel_rfl
theorem k_f11_b (s : Shared) (vs ks : List Value) (X : (K P).In s.heap) (h1 : (vs ++ ks).length = 3) (h2 : ks.length = ([] : List Str).length) : BindS s (fdOf (K P) (gA (K P) "_levenshtein_distance")) ⟨vs, ([] : List Str).zip ks⟩ ((["a", "b", "max_cost"] : List Str).zip ((vs ++ ks) ++ List.replicate 0 .none)) := by
  rw [List.length_append] at h1
  obtain ⟨x, y, z, rfl⟩ := len3 (l := vs) (by have h3 : ks.length = 0 := h2; omega)
  obtain rfl := len0 h2
  exact @bindC (K P) s (fdOf (K P) (gA (K P) "_levenshtein_distance")) ⟨[x, y, z], ([] : List Str).zip []⟩ ((["a", "b", "max_cost"] : List Str).zip (([x, y, z] ++ []) ++ List.replicate 0 .none)) X (k_f11_q P x y z)
theorem k_f11 : FnK (K P) tab 11 N_lev p_lev 3 0 [] (gA (K P) "_levenshtein_distance") ["a", "b", "max_cost"] := ⟨k_f11_v P, k_f11_f P, k_f11_m P, by decide, k_f11_b P⟩
theorem k_f14_v : fvIs (K P) tab 14 (gA (K P) "_law_spelled") = true := by kernel_rfl
theorem k_f14_f : chFn (K P) N_spelled (gA (K P) "_law_spelled") ["number", "places"] = true := by kernel_rfl
theorem k_f14_m : CkSs tab N_spelled p_spelled (fdOf (K P) (gA (K P) "_law_spelled")).scope (bodyOf (fdOf (K P) (gA (K P) "_law_spelled"))) := ckSs fun c t => by kernel_rfl
theorem k_f14_q (x y : Value) : BindC (K P) (fdOf (K P) (gA (K P) "_law_spelled")) ⟨[x, y], ([] : List Str).zip []⟩ ((["number", "places"] : List Str).zip (([x, y] ++ []) ++ List.replicate 0 .none)) := fun S => by kernel_rfl
theorem k_f14_b (s : Shared) (vs ks : List Value) (X : (K P).In s.heap) (h1 : (vs ++ ks).length = 2) (h2 : ks.length = ([] : List Str).length) : BindS s (fdOf (K P) (gA (K P) "_law_spelled")) ⟨vs, ([] : List Str).zip ks⟩ ((["number", "places"] : List Str).zip ((vs ++ ks) ++ List.replicate 0 .none)) := by
  rw [List.length_append] at h1
  obtain ⟨x, y, rfl⟩ := len2 (l := vs) (by have h3 : ks.length = 0 := h2; omega)
  obtain rfl := len0 h2
  exact @bindC (K P) s (fdOf (K P) (gA (K P) "_law_spelled")) ⟨[x, y], ([] : List Str).zip []⟩ ((["number", "places"] : List Str).zip (([x, y] ++ []) ++ List.replicate 0 .none)) X (k_f14_q P x y)
theorem k_f14 : FnK (K P) tab 14 N_spelled p_spelled 2 0 [] (gA (K P) "_law_spelled") ["number", "places"] := ⟨k_f14_v P, k_f14_f P, k_f14_m P, by decide, k_f14_b P⟩
theorem k_f15_v : fvIs (K P) tab 15 (gA (K P) "_law_unlike") = true := by kernel_rfl
theorem k_f15_f : chFn (K P) N_unlike (gA (K P) "_law_unlike") ["one", "other"] = true := by kernel_rfl
theorem k_f15_m : CkSs tab N_unlike p_unlike (fdOf (K P) (gA (K P) "_law_unlike")).scope (bodyOf (fdOf (K P) (gA (K P) "_law_unlike"))) := ckSs fun c t => by kernel_rfl
theorem k_f15_q (x y : Value) : BindC (K P) (fdOf (K P) (gA (K P) "_law_unlike")) ⟨[x, y], ([] : List Str).zip []⟩ ((["one", "other"] : List Str).zip (([x, y] ++ []) ++ List.replicate 0 .none)) := fun S => by kernel_rfl
theorem k_f15_b (s : Shared) (vs ks : List Value) (X : (K P).In s.heap) (h1 : (vs ++ ks).length = 2) (h2 : ks.length = ([] : List Str).length) : BindS s (fdOf (K P) (gA (K P) "_law_unlike")) ⟨vs, ([] : List Str).zip ks⟩ ((["one", "other"] : List Str).zip ((vs ++ ks) ++ List.replicate 0 .none)) := by
  rw [List.length_append] at h1
  obtain ⟨x, y, rfl⟩ := len2 (l := vs) (by have h3 : ks.length = 0 := h2; omega)
  obtain rfl := len0 h2
  exact @bindC (K P) s (fdOf (K P) (gA (K P) "_law_unlike")) ⟨[x, y], ([] : List Str).zip []⟩ ((["one", "other"] : List Str).zip (([x, y] ++ []) ++ List.replicate 0 .none)) X (k_f15_q P x y)
theorem k_f15 : FnK (K P) tab 15 N_unlike p_unlike 2 0 [] (gA (K P) "_law_unlike") ["one", "other"] := ⟨k_f15_v P, k_f15_f P, k_f15_m P, by decide, k_f15_b P⟩
theorem k_f16_v : fvIs (K P) tab 16 (gA (K P) "_law_told") = true := by kernel_rfl
theorem k_f16_f : chFn (K P) N_told (gA (K P) "_law_told") ["words"] = true := by kernel_rfl
theorem k_f16_m : CkSs tab N_told p_told (fdOf (K P) (gA (K P) "_law_told")).scope (bodyOf (fdOf (K P) (gA (K P) "_law_told"))) := ckSs fun c t => by kernel_rfl
theorem k_f16_q (x : Value) : BindC (K P) (fdOf (K P) (gA (K P) "_law_told")) ⟨[x], ([] : List Str).zip []⟩ ((["words"] : List Str).zip (([x] ++ []) ++ List.replicate 0 .none)) := fun S => by kernel_rfl
theorem k_f16_b (s : Shared) (vs ks : List Value) (X : (K P).In s.heap) (h1 : (vs ++ ks).length = 1) (h2 : ks.length = ([] : List Str).length) : BindS s (fdOf (K P) (gA (K P) "_law_told")) ⟨vs, ([] : List Str).zip ks⟩ ((["words"] : List Str).zip ((vs ++ ks) ++ List.replicate 0 .none)) := by
  rw [List.length_append] at h1
  obtain ⟨x, rfl⟩ := len1 (l := vs) (by have h3 : ks.length = 0 := h2; omega)
  obtain rfl := len0 h2
  exact @bindC (K P) s (fdOf (K P) (gA (K P) "_law_told")) ⟨[x], ([] : List Str).zip []⟩ ((["words"] : List Str).zip (([x] ++ []) ++ List.replicate 0 .none)) X (k_f16_q P x)
theorem k_f16 : FnK (K P) tab 16 N_told p_told 1 0 [] (gA (K P) "_law_told") ["words"] := ⟨k_f16_v P, k_f16_f P, k_f16_m P, by decide, k_f16_b P⟩
theorem k_f17_v : fvIs (K P) tab 17 (gA (K P) "_law_between") = true := by kernel_rfl
theorem k_f17_f : chFn (K P) N_between (gA (K P) "_law_between") ["told", "start", "step", "end"] = true := by kernel_rfl
theorem k_f17_m : CkSs tab N_between p_between (fdOf (K P) (gA (K P) "_law_between")).scope (bodyOf (fdOf (K P) (gA (K P) "_law_between"))) := ckSs fun c t => by kernel_rfl
theorem k_f17_q (x y z u : Value) : BindC (K P) (fdOf (K P) (gA (K P) "_law_between")) ⟨[x, y, z, u], ([] : List Str).zip []⟩ ((["told", "start", "step", "end"] : List Str).zip (([x, y, z, u] ++ []) ++ List.replicate 0 .none)) := fun S => by kernel_rfl
theorem k_f17_b (s : Shared) (vs ks : List Value) (X : (K P).In s.heap) (h1 : (vs ++ ks).length = 4) (h2 : ks.length = ([] : List Str).length) : BindS s (fdOf (K P) (gA (K P) "_law_between")) ⟨vs, ([] : List Str).zip ks⟩ ((["told", "start", "step", "end"] : List Str).zip ((vs ++ ks) ++ List.replicate 0 .none)) := by
  rw [List.length_append] at h1
  obtain ⟨x, y, z, u, rfl⟩ := len4 (l := vs) (by have h3 : ks.length = 0 := h2; omega)
  obtain rfl := len0 h2
  exact @bindC (K P) s (fdOf (K P) (gA (K P) "_law_between")) ⟨[x, y, z, u], ([] : List Str).zip []⟩ ((["told", "start", "step", "end"] : List Str).zip (([x, y, z, u] ++ []) ++ List.replicate 0 .none)) X (k_f17_q P x y z u)
theorem k_f17 : FnK (K P) tab 17 N_between p_between 4 0 [] (gA (K P) "_law_between") ["told", "start", "step", "end"] := ⟨k_f17_v P, k_f17_f P, k_f17_m P, by decide, k_f17_b P⟩
theorem k_f18_v : fvIs (K P) tab 18 (gA (K P) "_law_middles") = true := by kernel_rfl
theorem k_f18_f : chFn (K P) N_middles (gA (K P) "_law_middles") ["told"] = true := by kernel_rfl
theorem k_f18_m : CkSs tab N_middles p_middles (fdOf (K P) (gA (K P) "_law_middles")).scope (bodyOf (fdOf (K P) (gA (K P) "_law_middles"))) := ckSs fun c t => by kernel_rfl
theorem k_f18_q (x : Value) : BindC (K P) (fdOf (K P) (gA (K P) "_law_middles")) ⟨[x], ([] : List Str).zip []⟩ ((["told"] : List Str).zip (([x] ++ []) ++ List.replicate 0 .none)) := fun S => by kernel_rfl
theorem k_f18_b (s : Shared) (vs ks : List Value) (X : (K P).In s.heap) (h1 : (vs ++ ks).length = 1) (h2 : ks.length = ([] : List Str).length) : BindS s (fdOf (K P) (gA (K P) "_law_middles")) ⟨vs, ([] : List Str).zip ks⟩ ((["told"] : List Str).zip ((vs ++ ks) ++ List.replicate 0 .none)) := by
  rw [List.length_append] at h1
  obtain ⟨x, rfl⟩ := len1 (l := vs) (by have h3 : ks.length = 0 := h2; omega)
  obtain rfl := len0 h2
  exact @bindC (K P) s (fdOf (K P) (gA (K P) "_law_middles")) ⟨[x], ([] : List Str).zip []⟩ ((["told"] : List Str).zip (([x] ++ []) ++ List.replicate 0 .none)) X (k_f18_q P x)
theorem k_f18 : FnK (K P) tab 18 N_middles p_middles 1 0 [] (gA (K P) "_law_middles") ["told"] := ⟨k_f18_v P, k_f18_f P, k_f18_m P, by decide, k_f18_b P⟩
theorem k_12 : fvIs (K P) tab 12 (gA (K P) "Headers") = true := by kernel_rfl
theorem k_v6 : fvIs (K P) tab 6 (mA (K P) (gA (K P) "Headers") "add_header") = true := by kernel_rfl
theorem k_ad : chAdd (K P) N_add1 (mA (K P) (gA (K P) "Headers") "add_header") = true := by kernel_rfl
theorem k_a1 : CkSs tab N_add1 p_add1 (fdOf (K P) (mA (K P) (gA (K P) "Headers") "add_header")).scope ((bodyOf (fdOf (K P) (mA (K P) (gA (K P) "Headers") "add_header"))).take 2) := ckSs fun c t => by kernel_rfl
theorem k_a2 : CkSs tab N_add1 p_add2 (fdOf (K P) (mA (K P) (gA (K P) "Headers") "add_header")).scope ((bodyOf (fdOf (K P) (mA (K P) (gA (K P) "Headers") "add_header"))).drop 3) := ckSs fun c t => by kernel_rfl
theorem k_ab (x y z : Value) : BindD (K P) (fdOf (K P) (mA (K P) (gA (K P) "Headers") "add_header")) ⟨[x, y, z], []⟩ fun D => [("self", x), ("_name", y), ("_value", z), ("_params", .ref D)] := fun S => by kernel_rfl
theorem k_law : isR (nsIn (K P) mainGlobals "law") = some (gA (K P) "law") := by kernel_rfl
theorem k_lf : chFn (K P) N_law (gA (K P) "law") ["script"] = true := by kernel_rfl
theorem k_lm : CkSs tab N_law p_law (fdOf (K P) (gA (K P) "law")).scope (bodyOf (fdOf (K P) (gA (K P) "law"))) := ckSs fun c t => by kernel_rfl
theorem k_lb_q (x : Value) : BindC (K P) (fdOf (K P) (gA (K P) "law")) ⟨[x], []⟩ [("script", x)] := fun S => by kernel_rfl
theorem k_lb (s : Shared) (x : Value) (X : (K P).In s.heap) : BindS s (fdOf (K P) (gA (K P) "law")) ⟨[x], []⟩ [("script", x)] := @bindC (K P) s (fdOf (K P) (gA (K P) "law")) ⟨[x], []⟩ [("script", x)] X (k_lb_q P x)
noncomputable def GoodF (p : Nat × FD) : Prop := ∃ a ps, FnK (K P) tab p.1 p.2.nm p.2.p p.2.n p.2.d (tab.kw p.1) a ps
theorem k_all : ∀ p ∈ dl, GoodF P p := List.forall_mem_cons.mpr ⟨(⟨(mA (K P) (gA (K P) "Headers") "_convert_string_type"), ["self", "value", "name"], k_f0 P⟩ : GoodF P (0, _)), List.forall_mem_cons.mpr ⟨(⟨(mA (K P) (gA (K P) "Headers") "get_all"), ["self", "name"], k_f5 P⟩ : GoodF P (5, _)), List.forall_mem_cons.mpr ⟨(⟨(mA (K P) (gA (K P) "Headers") "items"), ["self"], k_f7 P⟩ : GoodF P (7, _)), List.forall_mem_cons.mpr ⟨(⟨(gA (K P) "_substitution_cost"), ["ch_a", "ch_b"], k_f10 P⟩ : GoodF P (10, _)), List.forall_mem_cons.mpr ⟨(⟨(gA (K P) "_levenshtein_distance"), ["a", "b", "max_cost"], k_f11 P⟩ : GoodF P (11, _)), List.forall_mem_cons.mpr ⟨(⟨(gA (K P) "_law_spelled"), ["number", "places"], k_f14 P⟩ : GoodF P (14, _)), List.forall_mem_cons.mpr ⟨(⟨(gA (K P) "_law_unlike"), ["one", "other"], k_f15 P⟩ : GoodF P (15, _)), List.forall_mem_cons.mpr ⟨(⟨(gA (K P) "_law_told"), ["words"], k_f16 P⟩ : GoodF P (16, _)), List.forall_mem_cons.mpr ⟨(⟨(gA (K P) "_law_between"), ["told", "start", "step", "end"], k_f17 P⟩ : GoodF P (17, _)), List.forall_mem_cons.mpr ⟨(⟨(gA (K P) "_law_middles"), ["told"], k_f18 P⟩ : GoodF P (18, _)), fun _ h => nomatch h⟩⟩⟩⟩⟩⟩⟩⟩⟩⟩
theorem k_fns (f : Nat) (d : FD) (h : D f = some d) : ∃ a ps, FnK (K P) tab f d.nm d.p d.n d.d (tab.kw f) a ps := k_all P (f, d) (mem_look h)
theorem k_me (f : Nat) (d : FD) (hf : f < 10) (h : D f = some d) : d.m = true := me_of (l := dl) rfl h hf
theorem lawK : LawK (K P) tab D N_init1 p_init1 p_init2 N_add1 p_add1 p_add2 N_law p_law where
  tab := k_tab P
  cls := k_cls P
  pa0 := k_p0 P
  pa1 := k_p1 P
  ini := k_ini P
  m1 := k_m1 P
  m2 := k_m2 P
  sf := sf
  b0 := k_b0 P
  b1 := k_b1 P
  fns := k_fns P
  me := k_me
  f12 := k_12 P
  v6 := k_v6 P
  ad := k_ad P
  a1 := k_a1 P
  a2 := k_a2 P
  ab := k_ab P
  k6 := rfl
  k12 := rfl
  law := k_law P
  lf := k_lf P
  lm := k_lm P
  lb := k_lb P
end
end L02
end Mine

-- R7
set_option autoImplicit false
set_option maxRecDepth 100000
namespace Mine
open PySem

theorem noCells_strs (l : List (List Nat)) : noCells (l.map V.str) = true := by
  induction l with
  | nil => rfl
  | cons a l ih => exact ih
namespace L02
noncomputable abbrev Tw : Nat → Fns := tower D N_init1.length p_init1 p_init2 N_add1.length p_add1 p_add2

theorem t_conv (n : Nat) : CallsConv (Tw (n + 1)) := fun v s b H h => by
  show runD (Tw n) { nm := N_conv, p := p_conv, n := 3, m := true } [.hdr v, .str s, .bool b] H = _
  exact conv_run (Tw n) h
theorem t_sub (n : Nat) : CallsSub (Tw (n + 1)) := fun x y H hx hy => by
  show runD (Tw n) { nm := N_sub, p := p_sub, n := 2 } [.str [x], .str [y]] H = _
  exact sub_run (Tw n) x y H hx hy
theorem t_lev (n : Nat) : CallsLevG (Tw (n + 2)) := fun a b M H ha hb la lb => by
  show runD (Tw (n + 1)) { nm := N_lev, p := p_lev, n := 3, loc := true } [.str a, .str b, nI M] H = _
  obtain ⟨H', e⟩ := lev_run (t_sub n) (M := M) ha hb la lb
  show locRun (Tw (n + 1)) p_lev [some (.str a), some (.str b), some (nI M), none, none, none, none, none, none, none, none, none, none, none] H = _
  exact (ob_eq e).trans rfl
theorem t_btw (n : Nat) : CallsBtw (Tw (n + 1)) := fun m d a s e H ha hs he hm => by
  show runD (Tw n) { nm := N_between, p := p_between, n := 4 } [matV m d, nI a, nI s, nI e] H = _
  exact between_run ha hs he hm
theorem t_calls (n : Nat) : Calls (Tw (n + 3)) where
  sp := fun a x ps H ha hs hp hl => by
    show runD (Tw (n + 2)) { nm := N_spelled, p := p_spelled, n := 2 } [nI a, x] H = _
    exact spelled_run (Tw (n + 2)) ha hs hp hl
  un := fun a b H ha hb hl => by
    show runD (Tw (n + 2)) { nm := N_unlike, p := p_unlike, n := 2 } [.str a, .str b] H = _
    exact unl_run (Tw (n + 2)) ha hb hl
  lev := t_lev (n + 1)
  told := fun P H hP hn => by
    show runD (Tw (n + 2)) { nm := N_told, p := p_told, n := 1, loc := true } [.lst (P.map V.str)] H = _
    obtain ⟨H', e, f⟩ := told_run (t_lev n) (M := 4) hP hn
    refine (if_pos ⟨rfl, fun h => Bool.noConfusion h⟩).trans ((if_pos rfl).trans ((if_pos (show noCells [.lst (P.map V.str)] = true from Bool.and_eq_true_iff.mpr ⟨noCells_strs P, rfl⟩)).trans ?_))
    exact (ob_eq e).trans (om_eq f)
  mid := fun m d H hm => by
    show runD (Tw (n + 2)) { nm := N_middles, p := p_middles, n := 1 } [matV m d] H = _
    exact middles_run (t_btw (n + 1)) hm
  hdr := fun H => (@if_pos _ (Classical.propDecidable _) rfl _ _ _).trans (headers0 (t_conv (n + 1)))
  add := fun L G a b ha hb hl => by
    show addF (Tw (n + 2)) 7 p_add1 p_add2 [.hdr (.cell 0), .str a, .str b] (L :: G) = _
    exact add_run (t_conv (n + 1)) ha hb hl
  items := fun k H l hk hl => by
    show runD (Tw (n + 2)) { nm := N_items, p := p_items, n := 1, d := 0, m := true } [.hdr (.cell k)] H = _
    exact items_run (Tw (n + 2)) hk hl
  ga := fun H v s es hl h hn hs => by
    show runD (Tw (n + 2)) { nm := N_get_all, p := p_get_all, n := 2, d := 0, m := true } [.hdr v, .str s] H = _
    exact get_all_run (t_conv (n + 1)) hl h hn hs

theorem plain (ns : List Int) (h : ns.length ≤ 63) : ∃ H', runF (Tw 6) p_law (slots0 N_law.length [.lst (ns.map V.int)]) [] = some (.bool true, H') :=
  law_run (t_calls 3) h (law_ok ns).1 (law_ok ns).2
end L02
end Mine

-- the end
open PySem PySem.W PyProof.Rows
set_option Elab.async false
set_option maxRecDepth 100000
set_option maxHeartbeats 8000000
namespace Mine
theorem ofInts : ∀ (ns : List Int), ofPy (PyData.list (List.map PyData.int ns)) = .list (ns.map fun i => .int i) := fun ns => by
  rw [ofPy, ofPys_eq, List.map_map]; rfl
end Mine
theorem PySem.Challenge.cw_pg0260_02_holds : PySem.Challenge.rw_pg0260_02.Holds := by
  refine Mine.hd ?_
  intro w s₀ s₁ mg mb G Y fa o pm cd doc dV kV ho hd hcd hD hmg hg args vals as hpre hlay hrd hwl hlo
  have KX := kIn_of Y
  refine Ground.open G ?_
  intro T B D TE TW
  wrow_args hpre hlay hrd hwl hlo
  rename_i ns _ _ _ _ _ _ _ l vs _ _ _ w1 _ _ _ hc _
  all_goals (
    first | refine callC_kw (enter_call ?_) | refine enter_call ?_ | refine callC_kw (enter_callW ?_) | refine enter_callW ?_ | w_how
    refine codeAny_mono ?_ (fun _ _ g => GoodW.toG g))
  have w1' := w1
  rw [Mine.ofInts] at w1'
  obtain ⟨H', hp⟩ := Mine.L02.plain ns (by omega)
  refine Mine.law_top KX T.g T.b T.nolimit T.builtins (Mine.L02.lawK w.params) hmg w1' 6 (by decide) hp fun h' tk kp => ?_
  refine ⟨.inl ⟨_, ofPy (.bool true), _, rfl, fun _ => rfl, .bool true, ?_, ?_⟩, kp, rfl, hg⟩
  · first | rfl | kernel_rfl | trace_state
  · exact fun _ => ⟨.nil, by simp⟩
