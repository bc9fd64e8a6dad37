import PyProof.Rows.All
import Wide.All
import OpenK.AllK
import Open.Tops
import Wide.FinOn
import Lean
import PySem.Challenge.RW_md0036_01
set_option Elab.async false
set_option linter.unusedSimpArgs false
set_option linter.unusedVariables false
section
open PySem PyProof.Rows
set_option genSizeOf false
set_option genSizeOfSpec false
namespace Mine
theorem bc {p : Prop} (h : (p → False) → False) : p := Classical.byContradiction h
inductive V where
  | none | bool (b : Bool) | int (i : Int) | ref (n : Nat)
  deriving DecidableEq
inductive O where
  | nums (l : List Int) | bytes (l : List Nat)
inductive Res where
  | one (v : V) | many (tup : Bool) (vs : List V)
noncomputable abbrev Loc := Nat → Option V
noncomputable def Loc.set (l : Loc) (k : Nat) (v : V) : Loc := fun j => if j = k then some v else l j
structure St where
  loc : Loc
  hp : List O
inductive Fl where
  | next | ret (r : Res)
inductive BI where
  | len | max | lst | sorted | int | bytearray
  deriving DecidableEq
mutual
inductive X where
  | loc (k : Nat) | gv (g : Nat) | int (i : Int) | none | bool (b : Bool)
  | bin (op : Operator) (a b : X)
  | neg (a : X)
  | cmp (op : CmpOp) (a b : X)
  | and (xs : XL) | or (xs : XL) | not (a : X)
  | ite (c a b : X)
  | idx (a i : X)
  | slc (a lo hi st : X)
  | list (xs : XL)
  | call (c : Nat) (pos kw : XL)
  | bi (b : BI) (xs : XL)
  | compR (k : Nat) (e elt : X)
  | compL (k : Nat) (e elt : X)
inductive XL where
  | nil | cons (x : X) (xs : XL)
end
mutual
inductive S where
  | assign (k : Nat) (e : X)
  | assignC (k : Nat) (e : X)
  | unpack (ks : List Nat) (c : Nat) (pos kw : XL)
  | setI (a i e : X)
  | setS (a lo hi e : X)
  | augL (k : Nat) (op : Operator) (e : X)
  | augI (a i : X) (op : Operator) (e : X)
  | forR (k : Nat) (two : Bool) (lo hi : X) (body : SL)
  | forL (k : Nat) (e : X) (body : SL)
  | forE (k1 k2 : Nat) (e : X) (body : SL)
  | whil (c : X) (body : SL)
  | iff (c : X) (t e : SL)
  | ret (e : X)
  | retM (tup : Bool) (xs : XL)
  | raise
  | app (a e : X)
  | pop0 (a : X)
inductive SL where
  | nil | cons (s : S) (r : SL)
end
noncomputable abbrev QE := V → List O → Prop
noncomputable def SZ : Nat := 4096
noncomputable def sliceOf {α : Type} (l : List α) (lo hi : Option Int) : List α :=
  (l.drop (lo.elim 0 (clipAt l.length))).take (hi.elim l.length (clipAt l.length) - lo.elim 0 (clipAt l.length))
noncomputable def V.bound : V → Option (Option Int)
  | .none => some Option.none
  | .int i => some (some i)
  | _ => Option.none
noncomputable def pidx (i : Int) (n : Nat) : Option Nat :=
  if 0 ≤ i then (if i < n then some i.toNat else Option.none) else (if -(n : Int) ≤ i then some (i + n).toNat else Option.none)
noncomputable def wBin (op : Operator) (u v : V) (hp : List O) (Q : QE) : Prop :=
  match u, v with
  | .int i, .int j => match op with
    | .Add => Q (.int (i + j)) hp
    | .Sub => Q (.int (i - j)) hp
    | .Mult => i.natAbs < 2 ^ 64 ∧ j.natAbs < 2 ^ 64 ∧ Q (.int (i * j)) hp
    | .FloorDiv => j ≠ 0 ∧ j.natAbs < 1073741824 ∧ Q (.int (i.fdiv j)) hp
    | .Mod => j ≠ 0 ∧ Q (.int (i.fmod j)) hp
    | .BitXor => 0 ≤ i ∧ 0 ≤ j ∧ Q (.int ((i.toNat ^^^ j.toNat : Nat) : Int)) hp
    | .BitAnd => 0 ≤ i ∧ 0 ≤ j ∧ Q (.int ((i.toNat &&& j.toNat : Nat) : Int)) hp
    | .Pow => 0 ≤ i ∧ i ≤ 256 ∧ 0 ≤ j ∧ j ≤ 16 ∧ Q (.int (i ^ j.toNat)) hp
    | .LShift => 0 ≤ i ∧ i < 2 ^ 64 ∧ j = 1 ∧ Q (.int (i * 2)) hp
    | .RShift => 0 ≤ i ∧ i < 2 ^ 64 ∧ j = 1 ∧ Q (.int (i / 2)) hp
    | _ => False
  | .ref a, .ref b => match op, hp[a]?, hp[b]? with
    | .Add, some (.nums x), some (.nums y) => x.length + y.length ≤ SZ ∧ Q (.ref hp.length) (hp ++ [.nums (x ++ y)])
    | .Add, some (.bytes x), some (.bytes y) => x.length + y.length ≤ SZ ∧ Q (.ref hp.length) (hp ++ [.bytes (x ++ y)])
    | _, _, _ => False
  | .ref a, .int j => match op, hp[a]? with
    | .Mult, some (.nums [x]) => j ≤ SZ ∧ -(2 ^ 62) ≤ j ∧ Q (.ref hp.length) (hp ++ [.nums (List.replicate j.toNat x)])
    | _, _ => False
  | _, _ => False
noncomputable def wCmp (op : CmpOp) (u v : V) (hp : List O) (Q : QE) : Prop :=
  match u, v with
  | .int i, .int j => match op with
    | .Eq => Q (.bool (decide (i = j))) hp
    | .NotEq => Q (.bool (decide (i ≠ j))) hp
    | .Lt => Q (.bool (decide (i < j))) hp
    | .LtE => Q (.bool (decide (i ≤ j))) hp
    | .Gt => Q (.bool (decide (i > j))) hp
    | .GtE => Q (.bool (decide (i ≥ j))) hp
    | _ => False
  | .ref a, .ref b => match op, hp[a]?, hp[b]? with
    | .Eq, some (.nums x), some (.nums y) => Q (.bool (decide (x = y))) hp
    | .NotEq, some (.nums x), some (.nums y) => Q (.bool (decide (x ≠ y))) hp
    | _, _, _ => False
  | .int i, .ref b => match op, hp[b]? with
    | .NotIn, some (.nums y) => Q (.bool (decide (i ∉ y))) hp
    | _, _ => False
  | v, .none => match op with
    | .Is => Q (.bool (decide (v = .none))) hp
    | _ => False
  | _, _ => False
noncomputable def wTruth (v : V) (hp : List O) (Q : Bool → List O → Prop) : Prop :=
  match v with
  | .none => Q false hp
  | .bool b => Q b hp
  | .int i => Q (decide (i ≠ 0)) hp
  | .ref a => match hp[a]? with
    | some (.nums l) => l.length ≤ SZ ∧ Q (decide (l ≠ [])) hp
    | _ => False
noncomputable def wIdx (u v : V) (hp : List O) (Q : QE) : Prop :=
  match u, v with
  | .ref a, .int i => match hp[a]? with
    | some (.nums l) => match (pidx i l.length).bind (l[·]?) with
      | some x => l.length ≤ SZ ∧ Q (.int x) hp
      | Option.none => False
    | some (.bytes l) => match (pidx i l.length).bind (l[·]?) with
      | some x => l.length ≤ SZ ∧ Q (.int x) hp
      | Option.none => False
    | Option.none => False
  | _, _ => False
noncomputable def wSlc (u lo hi st : V) (hp : List O) (Q : QE) : Prop :=
  match u with
  | .ref a => match st, lo.bound, hi.bound, hp[a]? with
    | .none, some l, some h, some (.nums x) => x.length ≤ SZ ∧ Q (.ref hp.length) (hp ++ [.nums (sliceOf x l h)])
    | .none, some l, some h, some (.bytes x) => x.length ≤ SZ ∧ Q (.ref hp.length) (hp ++ [.bytes (sliceOf x l h)])
    | .int (-1), some Option.none, some Option.none, some (.nums x) => x.length ≤ SZ ∧ Q (.ref hp.length) (hp ++ [.nums x.reverse])
    | .int (-1), some Option.none, some Option.none, some (.bytes x) => x.length ≤ SZ ∧ Q (.ref hp.length) (hp ++ [.bytes x.reverse])
    | _, _, _, _ => False
  | _ => False
noncomputable def isByte (i : Int) : Prop := 0 ≤ i ∧ i < 256
noncomputable def wBI (b : BI) (vs : List V) (hp : List O) (Q : QE) : Prop :=
  match b, vs with
  | .len, [.ref a] => match hp[a]? with
    | some (.nums l) => l.length ≤ SZ ∧ Q (.int l.length) hp
    | some (.bytes l) => l.length ≤ SZ ∧ Q (.int l.length) hp
    | Option.none => False
  | .int, [.int i] => Q (.int i) hp
  | .max, [.int i, .int j] => Q (.int (max i j)) hp
  | .max, [.ref a] => match hp[a]? with
    | some (.nums l) => l ≠ [] ∧ l.length ≤ SZ ∧ ∀ M, M ∈ l → (∀ x ∈ l, x ≤ M) → Q (.int M) hp
    | _ => False
  | .lst, [.ref a] => match hp[a]? with
    | some (.nums l) => l.length ≤ SZ ∧ Q (.ref hp.length) (hp ++ [.nums l])
    | some (.bytes l) => l.length ≤ SZ ∧ Q (.ref hp.length) (hp ++ [.nums (l.map Int.ofNat)])
    | Option.none => False
  | .sorted, [.ref a] => match hp[a]? with
    | some (.nums l) => l.length < 64 ∧ ∀ l', l'.Perm l → l'.Pairwise (· ≤ ·) → Q (.ref hp.length) (hp ++ [.nums l'])
    | _ => False
  | .bytearray, [.int n] => 0 ≤ n ∧ n ≤ SZ ∧ Q (.ref hp.length) (hp ++ [.bytes (List.replicate n.toNat 0)])
  | .bytearray, [.ref a] => match hp[a]? with
    | some (.nums l) => l.length ≤ SZ ∧ (∀ x ∈ l, isByte x) ∧ Q (.ref hp.length) (hp ++ [.bytes (l.map Int.toNat)])
    | some (.bytes l) => l.length ≤ SZ ∧ Q (.ref hp.length) (hp ++ [.bytes l])
    | Option.none => False
  | _, _ => False
noncomputable abbrev Spec := List V → List O → (Res → List O → Prop) → Prop
structure CallForm where
  name : Str
  kws : List Str
noncomputable abbrev Fns := List (CallForm × Spec)
noncomputable def intsOf : List V → Option (List Int)
  | [] => some []
  | .int i :: r => (intsOf r).map (i :: ·)
  | _ :: _ => Option.none
mutual
noncomputable def wX (G : Fns) (gs : List V) : X → Loc → List O → QE → Prop
  | .loc k, l, hp, Q => match l k with
    | some v => Q v hp
    | Option.none => False
  | .gv g, _, hp, Q => match gs[g]? with
    | some v => Q v hp
    | Option.none => False
  | .int i, _, hp, Q => Q (.int i) hp
  | .none, _, hp, Q => Q .none hp
  | .bool b, _, hp, Q => Q (.bool b) hp
  | .bin op a b, l, hp, Q => wX G gs a l hp fun u hp1 => wX G gs b l hp1 fun v hp2 => wBin op u v hp2 Q
  | .neg a, l, hp, Q => wX G gs a l hp fun u hp1 => match u with
    | .int i => Q (.int (-i)) hp1
    | _ => False
  | .cmp op a b, l, hp, Q => wX G gs a l hp fun u hp1 => wX G gs b l hp1 fun v hp2 => wCmp op u v hp2 Q
  | .and _, _, _, _ => False
  | .or xs, l, hp, Q => wOr G gs xs l hp Q
  | .not _, _, _, _ => False
  | .ite c a b, l, hp, Q => wC G gs c l hp fun t hp1 => match t with
    | true => wX G gs a l hp1 Q
    | false => wX G gs b l hp1 Q
  | .idx a i, l, hp, Q => wX G gs a l hp fun u hp1 => wX G gs i l hp1 fun v hp2 => wIdx u v hp2 Q
  | .slc a lo hi st, l, hp, Q => wX G gs a l hp fun u hp1 => wX G gs lo l hp1 fun v1 hp2 => wX G gs hi l hp2 fun v2 hp3 => wX G gs st l hp3 fun v3 hp4 => wSlc u v1 v2 v3 hp4 Q
  | .list xs, l, hp, Q => wXL G gs xs l hp fun vs hp1 => match intsOf vs with
    | some is => is.length ≤ SZ ∧ Q (.ref hp1.length) (hp1 ++ [.nums is])
    | Option.none => False
  | .call c pos kw, l, hp, Q => wXL G gs pos l hp fun vs hp1 => wXL G gs kw l hp1 fun ws hp2 => match G[c]? with
    | some f => f.2 (vs ++ ws) hp2 fun r hp3 => match r with
      | .one v => Q v hp3
      | .many _ _ => False
    | Option.none => False
  | .bi b xs, l, hp, Q => wXL G gs xs l hp fun vs hp1 => wBI b vs hp1 Q
  | .compR k e elt, l, hp, Q => wX G gs e l hp fun u hp1 => match u with
    | .int n => n.natAbs ≤ SZ ∧ ∃ f : Nat → Int, (∀ i : Nat, (i : Int) < n → wX G gs elt (l.set k (.int i)) hp1 fun v hp2 => v = .int (f i) ∧ hp2 = hp1) ∧
        Q (.ref hp1.length) (hp1 ++ [.nums ((List.range n.toNat).map f)])
    | _ => False
  | .compL k e elt, l, hp, Q => wX G gs e l hp fun u hp1 => match u with
    | .ref a => match hp1[a]? with
      | some (.nums xs) => xs.length ≤ SZ ∧ ∃ f : Int → Int, (∀ x ∈ xs, wX G gs elt (l.set k (.int x)) hp1 fun v hp2 => v = .int (f x) ∧ hp2 = hp1) ∧
        Q (.ref hp1.length) (hp1 ++ [.nums (xs.map f)])
      | _ => False
    | _ => False
noncomputable def wXL (G : Fns) (gs : List V) : XL → Loc → List O → (List V → List O → Prop) → Prop
  | .nil, _, hp, Q => Q [] hp
  | .cons x xs, l, hp, Q => wX G gs x l hp fun v hp1 => wXL G gs xs l hp1 fun vs hp2 => Q (v :: vs) hp2
noncomputable def wOr (G : Fns) (gs : List V) : XL → Loc → List O → QE → Prop
  | .nil, _, _, _ => False
  | .cons x .nil, l, hp, Q => wX G gs x l hp Q
  | .cons x (.cons y ys), l, hp, Q => wX G gs x l hp fun v hp1 => wTruth v hp1 fun b hp2 => match b with
    | true => Q v hp2
    | false => wOr G gs (.cons y ys) l hp2 Q
noncomputable def wC (G : Fns) (gs : List V) : X → Loc → List O → (Bool → List O → Prop) → Prop
  | .and xs, l, hp, Q => wCA G gs xs l hp Q
  | .or xs, l, hp, Q => wCO G gs xs l hp Q
  | .not a, l, hp, Q => wC G gs a l hp fun b hp1 => Q (!b) hp1
  | .loc k, l, hp, Q => match l k with
    | some v => wTruth v hp Q
    | Option.none => False
  | .cmp op a b, l, hp, Q => wX G gs a l hp fun u hp1 => wX G gs b l hp1 fun v hp2 => wCmp op u v hp2 fun w hp3 => wTruth w hp3 Q
  | .bin op a b, l, hp, Q => wX G gs a l hp fun u hp1 => wX G gs b l hp1 fun v hp2 => wBin op u v hp2 fun w hp3 => wTruth w hp3 Q
  | .call c pos kw, l, hp, Q => wXL G gs pos l hp fun vs hp1 => wXL G gs kw l hp1 fun ws hp2 => match G[c]? with
    | some f => f.2 (vs ++ ws) hp2 fun r hp3 => match r with
      | .one v => wTruth v hp3 Q
      | .many _ _ => False
    | Option.none => False
  | _, _, _, _ => False
noncomputable def wCA (G : Fns) (gs : List V) : XL → Loc → List O → (Bool → List O → Prop) → Prop
  | .nil, _, hp, Q => Q true hp
  | .cons x xs, l, hp, Q => wC G gs x l hp fun b hp1 => match b with
    | true => wCA G gs xs l hp1 Q
    | false => Q false hp1
noncomputable def wCO (G : Fns) (gs : List V) : XL → Loc → List O → (Bool → List O → Prop) → Prop
  | .nil, _, hp, Q => Q false hp
  | .cons x xs, l, hp, Q => wC G gs x l hp fun b hp1 => match b with
    | true => Q true hp1
    | false => wCO G gs xs l hp1 Q
end
structure View (n : Nat) (ρ : List Nat) (st st' : St) : Prop where
  len : ρ.length = st'.hp.length
  nodup : ρ.Nodup
  pre : ∀ j, j < n → ρ[j]? = some j
  objs : ∀ j k : Nat, ρ[j]? = some k → ∃ o, st.hp[k]? = some o ∧ st'.hp[j]? = some o
  locs : ∀ x v, st'.loc x = some v → match v with
    | .ref j => ∃ k, ρ[j]? = some k ∧ st.loc x = some (.ref k)
    | v => st.loc x = some v
noncomputable abbrev QS := Fl → St → Prop
noncomputable def setAll (l : Loc) : List Nat → List V → Loc
  | k :: ks, v :: vs => setAll (l.set k v) ks vs
  | _, _ => l
mutual
noncomputable def wS (G : Fns) (gs : List V) (n0 : Nat) : S → St → QS → Prop
  | .assign k e, st, Q => wX G gs e st.loc st.hp fun v hp => Q .next ⟨st.loc.set k v, hp⟩
  | .assignC k e, st, Q => wX G gs e st.loc st.hp fun v hp => Q .next ⟨st.loc.set k v, hp⟩
  | .unpack ks c pos kw, st, Q => wXL G gs pos st.loc st.hp fun vs hp1 => wXL G gs kw st.loc hp1 fun ws hp2 => match G[c]? with
    | some f => f.2 (vs ++ ws) hp2 fun r hp3 => match r with
      | .many tup us => tup = true ∧ us.length = ks.length ∧ Q .next ⟨setAll st.loc ks us, hp3⟩
      | .one _ => False
    | Option.none => False
  | .setI a i e, st, Q => wX G gs e st.loc st.hp fun v hp1 => wX G gs a st.loc hp1 fun u hp2 => wX G gs i st.loc hp2 fun iv hp3 => match u, iv, v with
    | .ref r, .int j, .int x => n0 ≤ r ∧ (match hp3[r]? with
      | some (.bytes l) => isByte x ∧ l.length ≤ SZ ∧ (match pidx j l.length with
        | some p => Q .next ⟨st.loc, hp3.set r (.bytes (l.set p x.toNat))⟩
        | Option.none => False)
      | some (.nums l) => 0 ≤ j ∧ l.length ≤ SZ ∧ (match pidx j l.length with
        | some p => Q .next ⟨st.loc, hp3.set r (.nums (l.set p x))⟩
        | Option.none => False)
      | _ => False)
    | _, _, _ => False
  | .setS a lo hi e, st, Q => wX G gs e st.loc st.hp fun v hp1 => wX G gs a st.loc hp1 fun u hp2 => wX G gs lo st.loc hp2 fun lv hp3 => wX G gs hi st.loc hp3 fun hv hp4 => match u, v, lv.bound, hv.bound with
    | .ref r, .ref t, some lb, some hb => n0 ≤ r ∧ r ≠ t ∧ (match hp4[r]?, hp4[t]? with
      | some (.bytes l), some (.bytes m) => l.length ≤ SZ ∧ m.length ≤ SZ ∧ (lb.getD 0) ≥ 0 ∧ (lb.getD 0) + m.length = hb.getD l.length ∧ (hb.getD l.length) ≤ l.length ∧
          Q .next ⟨st.loc, hp4.set r (.bytes (l.take (lb.getD 0).toNat ++ m ++ l.drop (hb.getD l.length).toNat))⟩
      | _, _ => False)
    | _, _, _, _ => False
  | .augL k op e, st, Q => match st.loc k with
    | some (.int i) => wX G gs e st.loc st.hp fun v hp1 => match v with
      | .int j => op = .BitXor ∧ 0 ≤ i ∧ 0 ≤ j ∧ Q .next ⟨st.loc.set k (.int ((i.toNat ^^^ j.toNat : Nat) : Int)), hp1⟩
      | _ => False
    | _ => False
  | .augI a i op e, st, Q => wX G gs a st.loc st.hp fun u hp1 => wX G gs i st.loc hp1 fun iv hp2 => match u, iv with
    | .ref r, .int j => n0 ≤ r ∧ (match hp2[r]? with
      | some (.bytes l) => l.length ≤ SZ ∧ (match (pidx j l.length), (pidx j l.length).bind (l[·]?) with
        | some p, some x => wX G gs e st.loc hp2 fun v hp3 => match v with
          | .int y => op = .BitXor ∧ 0 ≤ y ∧ isByte ((x ^^^ y.toNat : Nat) : Int) ∧ hp3[r]? = some (.bytes l) ∧ Q .next ⟨st.loc, hp3.set r (.bytes (l.set p (x ^^^ y.toNat)))⟩
          | _ => False
        | _, _ => False)
      | _ => False)
    | _, _ => False
  | .forR k _ lo hi body, st, Q => wX G gs lo st.loc st.hp fun u hp1 => wX G gs hi st.loc hp1 fun v hp2 => match u, v with
    | .int a, .int b => a.natAbs ≤ SZ ∧ b.natAbs ≤ SZ ∧ ∃ I : Nat → St → Prop, I 0 ⟨st.loc, hp2⟩ ∧
        (∀ (i : Nat) st1, I i st1 → a + i < b → wSL G gs n0 body ⟨st1.loc.set k (.int (a + i)), st1.hp⟩ fun fl st2 => fl = .next ∧ ∃ ρ st3, View n0 ρ st2 st3 ∧ I (i + 1) st3) ∧
        ∀ st1, I (b - a).toNat st1 → Q .next st1
    | _, _ => False
  | .forL k e body, st, Q => wX G gs e st.loc st.hp fun u hp1 => match u with
    | .ref r => match hp1[r]? with
      | some (.nums xs) => xs.length ≤ SZ ∧ ∃ n1 ρ₀ st₀, n0 ≤ n1 ∧ View n0 ρ₀ ⟨st.loc, hp1⟩ st₀ ∧ n1 ≤ st₀.hp.length ∧ (∀ j, n1 ≤ j → ρ₀[j]? ≠ some r) ∧
          ∃ I : Nat → St → Prop, I 0 st₀ ∧
          (∀ (i : Nat) (x : Int) st1, I i st1 → xs[i]? = some x → wSL G gs n1 body ⟨st1.loc.set k (.int x), st1.hp⟩ fun fl st2 => fl = .next ∧ ∃ ρ st3, View n1 ρ st2 st3 ∧ I (i + 1) st3) ∧
          ∀ st1, I xs.length st1 → Q .next st1
      | _ => False
    | _ => False
  | .forE k1 k2 e body, st, Q => wX G gs e st.loc st.hp fun u hp1 => match u with
    | .ref r => match hp1[r]? with
      | some (.nums xs) => xs.length ≤ SZ ∧ ∃ n1 ρ₀ st₀, n0 ≤ n1 ∧ View n0 ρ₀ ⟨st.loc, hp1⟩ st₀ ∧ n1 ≤ st₀.hp.length ∧ (∀ j, n1 ≤ j → ρ₀[j]? ≠ some r) ∧
          ∃ I : Nat → St → Prop, I 0 st₀ ∧
          (∀ (i : Nat) (x : Int) st1, I i st1 → xs[i]? = some x → wSL G gs n1 body ⟨(st1.loc.set k1 (.int i)).set k2 (.int x), st1.hp⟩ fun fl st2 => fl = .next ∧ ∃ ρ st3, View n1 ρ st2 st3 ∧ I (i + 1) st3) ∧
          ∀ st1, I xs.length st1 → Q .next st1
      | _ => False
    | _ => False
  | .whil c body, st, Q => ∃ I : Nat → St → Prop, (∃ m, I m st) ∧
      (∀ m st1, I m st1 → wC G gs c st1.loc st1.hp fun b hp1 => match b with
        | true => wSL G gs n0 body ⟨st1.loc, hp1⟩ fun fl st2 => fl = .next ∧ ∃ ρ st3 m', View n0 ρ st2 st3 ∧ m' < m ∧ I m' st3
        | false => Q .next ⟨st1.loc, hp1⟩)
  | .iff c t e, st, Q => wC G gs c st.loc st.hp fun b hp1 => match b with
    | true => wSL G gs n0 t ⟨st.loc, hp1⟩ Q
    | false => wSL G gs n0 e ⟨st.loc, hp1⟩ Q
  | .ret e, st, Q => wX G gs e st.loc st.hp fun v hp1 => Q (.ret (.one v)) ⟨st.loc, hp1⟩
  | .retM tup xs, st, Q => wXL G gs xs st.loc st.hp fun vs hp1 => vs.length ≤ SZ ∧ Q (.ret (.many tup vs)) ⟨st.loc, hp1⟩
  | .raise, _, _ => False
  | .app a e, st, Q => wX G gs a st.loc st.hp fun u hp1 => match u with
    | .ref r => (∃ l1, hp1[r]? = some (.nums l1)) ∧ wX G gs e st.loc hp1 fun v hp2 => match v with
      | .int x => n0 ≤ r ∧ (match hp2[r]? with
        | some (.nums l) => l.length < SZ ∧ Q .next ⟨st.loc, hp2.set r (.nums (l ++ [x]))⟩
        | _ => False)
      | _ => False
    | _ => False
  | .pop0 a, st, Q => wX G gs a st.loc st.hp fun u hp1 => match u with
    | .ref r => n0 ≤ r ∧ (match hp1[r]? with
      | some (.nums (_ :: l)) => l.length < SZ ∧ Q .next ⟨st.loc, hp1.set r (.nums l)⟩
      | _ => False)
    | _ => False
noncomputable def wSL (G : Fns) (gs : List V) (n0 : Nat) : SL → St → QS → Prop
  | .nil, st, Q => Q .next st
  | .cons s r, st, Q => wS G gs n0 s st fun fl st1 => match fl with
    | .next => wSL G gs n0 r st1 Q
    | .ret v => Q (.ret v) st1
end
noncomputable def BI.names : BI → List Str
  | .len => ["len"]
  | .max => ["max"]
  | .lst => ["list"]
  | .sorted => ["sorted"]
  | .int => ["int"]
  | .bytearray => ["bytearray", "_bytearray"]
noncomputable def BI.val : BI → Value
  | .len => .builtin "len"
  | .max => .builtin "max"
  | .lst => .type "list"
  | .sorted => .builtin "sorted"
  | .int => .type "int"
  | .bytearray => .type "bytearray"
noncomputable def rangeNames : List Str := ["range", "xrange"]
noncomputable def enumNames : List Str := ["enumerate"]
structure Tx where
  cf : List CallForm
  gn : List Str
  sc : Scope
  ns : List (Option Str)
  top : Bool := true
noncomputable def Tx.isGlob (T : Tx) (x : Str) : Bool := T.sc.names.lookup x == some .globalImplicit && !(x == ("__debug__" : Str))
noncomputable def Tx.isSlot (T : Tx) (k : Nat) (x : Str) : Bool := T.ns[k]? == some (some x) && !(x == ("__debug__" : Str))
noncomputable def Tx.inner (T : Tx) (sc : Scope) (k : Nat) (x : Str) : Tx :=
  { T with top := false, sc := sc, ns := (T.ns.zipIdx.map fun (n, j) => if j = k then some x else n.bind fun y => if sc.names.lookup y == some .free && T.sc.names.lookup y == some .cell then some y else none) }
noncomputable def okComp (T : Tx) (sc : Scope) (k : Nat) (x : Str) : Bool :=
  T.top && sc.kind == .function && decide (k < T.ns.length) && sc.names.lookup x == some .local && sc.names.all (fun y => y.2 != .cell && (y.2 != .local || sc.names.lookup y.1 == some .local)) &&
  sc.names.all (fun y => y.2 != .free || T.sc.names.lookup y.1 == some .cell)
noncomputable def onE {α : Type} (d : α) (boolOp : BoolOp → List Expr → α := fun _ _ => d) (binOp : Expr → Operator → Expr → α := fun _ _ _ => d) (unaryOp : UnaryOp → Expr → α := fun _ _ => d) (ifExp : Expr → Expr → Expr → α := fun _ _ _ => d)
    (listComp : Expr → List Comprehension → Scope → Pos → α := fun _ _ _ _ => d) (compare : Expr → List CmpOp → List Expr → α := fun _ _ _ => d) (call : Expr → List Expr → List Keyword → Pos → α := fun _ _ _ _ => d) (constant : Const → α := fun _ => d)
    (attr : Expr → Str → Pos → α := fun _ _ _ => d) (subscript : Expr → Expr → α := fun _ _ => d) (starred : α := d) (name : Str → Pos → α := fun _ _ => d) (list : List Expr → α := fun _ => d) (tuple : List Expr → α := fun _ => d)
    (slice : Option Expr → Option Expr → Option Expr → α := fun _ _ _ => d) : Expr → α
  | .BoolOp o es _ => boolOp o es
  | .BinOp l o r _ => binOp l o r
  | .UnaryOp o e _ => unaryOp o e
  | .IfExp t e f _ => ifExp t e f
  | .ListComp el gs sc p => listComp el gs sc p
  | .Compare l os rs _ => compare l os rs
  | .Call f as ks p => call f as ks p
  | .Constant c _ _ => constant c
  | .Attribute o m p => attr o m p
  | .Subscript v s _ => subscript v s
  | .Starred .. => starred
  | .Name x p => name x p
  | .List es _ => list es
  | .Tuple es _ _ => tuple es
  | .Slice l h s _ => slice l h s
  | _ => d
noncomputable def one? {α : Type} : List α → Option α
  | [a] => some a
  | _ => none
noncomputable def asName : Expr → Option (Str × Pos) := onE none (name := fun x p => some (x, p))
noncomputable def constInt : Const → Option Int
  | .int j => some j
  | _ => none
noncomputable def constNone : Const → Option Unit
  | .none => some ()
  | _ => none
noncomputable def constBool : Const → Option Bool
  | .bool b => some b
  | _ => none
noncomputable def asInt : Expr → Option Int := onE none (constant := constInt)
noncomputable def asNone : Expr → Option Unit := onE none (constant := constNone)
noncomputable def asTruth : Expr → Option Bool := onE none (constant := constBool)
noncomputable def asBin : Expr → Option (Expr × Operator × Expr) := onE none (binOp := fun l o r => some (l, o, r))
noncomputable def asNeg : Expr → Option Expr := onE none (unaryOp := fun o e => match o with | .USub => some e | _ => none)
noncomputable def asNot : Expr → Option Expr := onE none (unaryOp := fun o e => match o with | .Not => some e | _ => none)
noncomputable def asCmp : Expr → Option (Expr × CmpOp × Expr) := onE none (compare := fun l os rs => (one? os).bind fun o => (one? rs).bind fun r => some (l, o, r))
noncomputable def asAnd : Expr → Option (List Expr) := onE none (boolOp := fun o es => match o with | .And => some es | .Or => none)
noncomputable def asOr : Expr → Option (List Expr) := onE none (boolOp := fun o es => match o with | .Or => some es | .And => none)
noncomputable def asIte : Expr → Option (Expr × Expr × Expr) := onE none (ifExp := fun t e f => some (t, e, f))
noncomputable def asSub : Expr → Option (Expr × Expr) := onE none (subscript := fun v s => some (v, s))
noncomputable def asSlice : Expr → Option (Option Expr × Option Expr × Option Expr) := onE none (slice := fun l h s => some (l, h, s))
noncomputable def asList : Expr → Option (List Expr) := onE none (list := some)
noncomputable def asTuple : Expr → Option (List Expr) := onE none (tuple := some)
noncomputable def asCall : Expr → Option (Expr × List Expr × List Keyword × Pos) := onE none (call := fun f as ks p => some (f, as, ks, p))
noncomputable def asAttr : Expr → Option (Expr × Str × Pos) := onE none (attr := fun o m p => some (o, m, p))
noncomputable def asComp : Expr → Option (Expr × Str × Expr × Scope) := onE none (listComp := fun el gs sc _ => match gs with
  | [⟨x, a, [], 0⟩] => (asName x).map fun r => (el, r.1, a, sc)
  | _ => none)
noncomputable def asStar : Expr → Bool := onE false (starred := true)
noncomputable def notSlice (e : Expr) : Bool := (asSlice e).isNone
noncomputable def isNoneX : X → Bool
  | .none => true
  | _ => false
mutual
noncomputable def isX (T : Tx) : X → Expr → Bool
  | .loc k, e => (asName e).any fun x => T.isSlot k x.1
  | .gv g, e => (asName e).any fun x => T.gn[g]? == some x.1 && T.isGlob x.1
  | .int i, e => (asInt e).any fun j => i == j
  | .none, e => (asNone e).isSome
  | .bool b, e => (asTruth e).any fun c => b == c
  | .bin op a b, e => (asBin e).any fun r => op == r.2.1 && isX T a r.1 && isX T b r.2.2
  | .neg a, e => (asNeg e).any fun r => isX T a r
  | .cmp op a b, e => (asCmp e).any fun r => op == r.2.1 && behindInMarks r.2.1 r.2.2 == false && isX T a r.1 && isX T b r.2.2
  | .and xs, e => (asAnd e).any fun r => isXL T xs r
  | .or xs, e => (asOr e).any fun r => isXL T xs r
  | .not a, e => (asNot e).any fun r => isX T a r
  | .ite c a b, e => (asIte e).any fun r => isX T c r.1 && isX T a r.2.1 && isX T b r.2.2
  | .idx a i, e => (asSub e).any fun r => isX T a r.1 && notSlice r.2 && isX T i r.2
  | .slc a lo hi st, e => (asSub e).any fun r => (asSlice r.2).any fun s => isX T a r.1 && s.1.elim (isNoneX lo) (fun e => isX T lo e) && s.2.1.elim (isNoneX hi) (fun e => isX T hi e) && s.2.2.elim (isNoneX st) (fun e => isX T st e)
  | .list xs, e => (asList e).any fun r => isXL T xs r
  | .call c pos kw, e => (asCall e).any fun r => (asName r.1).any fun f => (T.cf[c]?).any fun C => C.name == f.1 && T.isGlob f.1 && isXL T pos r.2.1 && isKW T kw r.2.2.1 C.kws && decide (r.2.1.length + 2 * r.2.2.1.length ≤ 30)
  | .bi b xs, e => (asCall e).any fun r => (asName r.1).any fun f => r.2.2.1.isEmpty && b.names.contains f.1 && T.isGlob f.1 && isXL T xs r.2.1
  | .compR k e elt, x => (asComp x).any fun r => (asCall r.2.2.1).any fun c => (asName c.1).any fun f => (one? c.2.1).any fun a => c.2.2.1.isEmpty && rangeNames.contains f.1 && T.isGlob f.1 && isX T e a && okComp T r.2.2.2 k r.2.1 && isX (T.inner r.2.2.2 k r.2.1) elt r.1
  | .compL k e elt, x => (asComp x).any fun r => (asName r.2.2.1).isSome && isX T e r.2.2.1 && okComp T r.2.2.2 k r.2.1 && isX (T.inner r.2.2.2 k r.2.1) elt r.1
noncomputable def isXL (T : Tx) : XL → List Expr → Bool
  | .nil, es => es.isEmpty
  | .cons x xs, es => (es.head?).any fun e => !asStar e && isX T x e && isXL T xs es.tail
noncomputable def isKW (T : Tx) : XL → List Keyword → List Str → Bool
  | .nil, ks, ns => ks.isEmpty && ns.isEmpty
  | .cons x xs, ks, ns => (ks.head?).any fun kw => (ns.head?).any fun m => kw.arg == some m && isX T x kw.value && isKW T xs ks.tail ns.tail
end
noncomputable def isXO (T : Tx) (x : X) (o : Option Expr) : Bool := o.elim (isNoneX x) fun e => isX T x e
noncomputable def isNames (T : Tx) : List Nat → List Expr → Bool
  | [], es => es.isEmpty
  | k :: ks, es => (es.head?).any fun e => (asName e).any fun x => T.isSlot k x.1 && isNames T ks es.tail
noncomputable def isRA (T : Tx) (two : Bool) (lo hi : X) (as : List Expr) : Bool :=
  match two with
  | false => (one? as).any fun e => (match lo with | .int 0 => true | _ => false) && isX T hi e
  | true => (as.head?).any fun d => (one? as.tail).any fun e => isX T lo d && isX T hi e
noncomputable def isComp : X → Bool
  | .compR .. => true
  | .compL .. => true
  | _ => false
noncomputable def onS {α : Type} (d : α) (assign : List Expr → Expr → α := fun _ _ => d) (aug : Expr → Operator → Expr → α := fun _ _ _ => d) (for' : Expr → Expr → List Stmt → List Stmt → α := fun _ _ _ _ => d) (while' : Expr → List Stmt → List Stmt → α := fun _ _ _ => d)
    (if' : Expr → List Stmt → List Stmt → α := fun _ _ _ => d) (ret : Option Expr → α := fun _ => d) (raise : α := d) (expr : Expr → α := fun _ => d) : Stmt → α
  | .Assign ts v _ => assign ts v
  | .AugAssign t o v _ => aug t o v
  | .For t i b e _ => for' t i b e
  | .While t b e _ => while' t b e
  | .If u b o _ => if' u b o
  | .Return v _ => ret v
  | .Raise .. => raise
  | .Expr e _ => expr e
  | _ => d
noncomputable def asAsg : Stmt → Option (Expr × Expr) := onS none (assign := fun ts v => (one? ts).bind fun t => some (t, v))
noncomputable def asAug : Stmt → Option (Expr × Operator × Expr) := onS none (aug := fun t o v => some (t, o, v))
noncomputable def asFor : Stmt → Option (Expr × Expr × List Stmt) := onS none (for' := fun t i b e => match e with | [] => some (t, i, b) | _ :: _ => none)
noncomputable def asWhile : Stmt → Option (Expr × List Stmt) := onS none (while' := fun t b e => match e with | [] => some (t, b) | _ :: _ => none)
noncomputable def asIf : Stmt → Option (Expr × List Stmt × List Stmt) := onS none (if' := fun u b o => some (u, b, o))
noncomputable def asRet : Stmt → Option Expr := onS none (ret := fun v => v)
noncomputable def asRaise : Stmt → Bool := onS false (raise := true)
noncomputable def asDo : Stmt → Option Expr := onS none (expr := some)
noncomputable def asLC : Expr → Option (Scope × Pos) := onE none (listComp := fun _ _ sc p => some (sc, p))
mutual
noncomputable def isS (T : Tx) : S → Stmt → Bool
  | .assign k e, s => (asAsg s).any fun r => (asName r.1).any fun x => T.isSlot k x.1 && !isComp e && isX T e r.2
  | .assignC k e, s => (asAsg s).any fun r => (asName r.1).any fun x => (asLC r.2).any fun q => T.isSlot k x.1 && isComp e && isX T e r.2 && T.sc.names.lookup x.1 == some .local && x.2.line == q.2.line && !(q.1.names.any fun (n, j) => n == x.1 && (j == .local || j == .cell))
  | .unpack ks c pos kw, s => (asAsg s).any fun r => (asTuple r.1).any fun ts => isNames T ks ts && isX T (.call c pos kw) r.2
  | .setI a i e, s => (asAsg s).any fun r => (asSub r.1).any fun q => !isComp e && isX T e r.2 && isX T a q.1 && notSlice q.2 && isX T i q.2
  | .setS a lo hi e, s => (asAsg s).any fun r => (asSub r.1).any fun q => (asSlice q.2).any fun l => l.2.2.isNone && !isComp e && isX T e r.2 && isX T a q.1 && isXO T lo l.1 && isXO T hi l.2.1
  | .augL k op e, s => (asAug s).any fun r => (asName r.1).any fun x => T.isSlot k x.1 && op == r.2.1 && isX T e r.2.2
  | .augI a i op e, s => (asAug s).any fun r => (asSub r.1).any fun q => isX T a q.1 && notSlice q.2 && isX T i q.2 && op == r.2.1 && isX T e r.2.2
  | .forR k two lo hi body, s => (asFor s).any fun r => (asName r.1).any fun x => (asCall r.2.1).any fun c => (asName c.1).any fun f => c.2.2.1.isEmpty && T.isSlot k x.1 && rangeNames.contains f.1 && T.isGlob f.1 && isRA T two lo hi c.2.1 && isSL T body r.2.2
  | .forL k e body, s => (asFor s).any fun r => (asName r.1).any fun x => (asName r.2.1).isSome && T.isSlot k x.1 && isX T e r.2.1 && isSL T body r.2.2
  | .forE k1 k2 e body, s => (asFor s).any fun r => (asTuple r.1).any fun ts => (asCall r.2.1).any fun c => (asName c.1).any fun f => (one? c.2.1).any fun a => c.2.2.1.isEmpty && isNames T [k1, k2] ts && enumNames.contains f.1 && T.isGlob f.1 && isX T e a && isSL T body r.2.2
  | .whil c body, s => (asWhile s).any fun r => isX T c r.1 && isSL T body r.2
  | .iff c t e, s => (asIf s).any fun r => isX T c r.1 && isSL T t r.2.1 && isSL T e r.2.2
  | .ret e, s => (asRet s).any fun v => isX T e v
  | .retM tup xs, s => (asRet s).any fun v => (match tup with | true => asTuple v | false => asList v).any fun es => isXL T xs es
  | .raise, s => asRaise s
  | .app a e, s => (asDo s).any fun d => (asCall d).any fun c => (asAttr c.1).any fun r => (one? c.2.1).any fun v => c.2.2.1.isEmpty && r.2.1 == ("append" : Str) && r.2.2.endLine == c.2.2.2.line && (asName r.1).isSome && isX T a r.1 && isX T e v && !asStar v
  | .pop0 a, s => (asDo s).any fun d => (asCall d).any fun c => (asAttr c.1).any fun r => (one? c.2.1).any fun v => c.2.2.1.isEmpty && r.2.1 == ("pop" : Str) && r.2.2.endLine == c.2.2.2.line && (asName r.1).isSome && isX T a r.1 && asInt v == some 0
noncomputable def isSL (T : Tx) : SL → List Stmt → Bool
  | .nil, ss => ss.isEmpty
  | .cons s r, ss => (ss.head?).any fun t => isS T s t && isSL T r ss.tail
end
mutual
noncomputable def okX (pc : List Bool) (k : Bool) : X → Bool
  | .loc _ => true
  | .gv _ => true
  | .int _ => true
  | .none => true
  | .bool _ => true
  | .bin _ a b => okX pc k a && okX pc k b
  | .neg a => okX pc false a
  | .cmp _ a b => okX pc false a && okX pc false b
  | .and xs => okXL pc false xs
  | .or xs => okXL pc false xs
  | .not a => okX pc false a
  | .ite c a b => okX pc false c && okX pc false a && okX pc false b
  | .idx a i => okX pc false a && okX pc false i
  | .slc a lo hi st => okX pc k a && okX pc false lo && okX pc false hi && okX pc false st
  | .list xs => okXL pc false xs
  | .call c pos kw => (k || pc.getD c false) && okXL pc k pos && okXL pc k kw
  | .bi b xs => (k || b != .bytearray) && okXL pc k xs
  | .compR _ e elt => okX pc false e && okX pc false elt
  | .compL _ e elt => okX pc false e && okX pc false elt
noncomputable def okXL (pc : List Bool) (k : Bool) : XL → Bool
  | .nil => true
  | .cons x xs => okX pc k x && okXL pc k xs
end
mutual
noncomputable def okS (pc : List Bool) (k : Bool) : S → Bool
  | .assign _ e => okX pc k e
  | .assignC _ e => okX pc false e
  | .unpack _ c pos kw => (k || pc.getD c false) && okXL pc k pos && okXL pc k kw
  | .setI a i e => okX pc false a && okX pc false i && okX pc false e
  | .setS a lo hi e => okX pc false a && okX pc false lo && okX pc false hi && okX pc false e
  | .augL _ _ e => okX pc false e
  | .augI a i _ e => okX pc false a && okX pc false i && okX pc false e
  | .forR _ _ lo hi body => okX pc false lo && okX pc false hi && okSL pc k body
  | .forL _ e body => okX pc false e && okSL pc k body
  | .forE _ _ e body => okX pc false e && okSL pc k body
  | .whil c body => okX pc false c && okSL pc false body
  | .iff c t e => okX pc false c && okSL pc k t && okSL pc k e
  | .ret e => okX pc k e
  | .retM _ xs => okXL pc k xs
  | .raise => true
  | .app a e => okX pc false a && okX pc false e
  | .pop0 a => okX pc false a
noncomputable def okSL (pc : List Bool) (k : Bool) : SL → Bool
  | .nil => true
  | .cons s r => okS pc k s && okSL pc k r
end
end Mine
end
section
open PySem PyProof.Rows
namespace Mine
noncomputable def forms : List CallForm := [⟨"gf_mult_noLUT", []⟩, ⟨"init_tables", []⟩, ⟨"gf_sub", []⟩, ⟨"gf_inverse", []⟩, ⟨"gf_mul", []⟩, ⟨"gf_div", []⟩, ⟨"gf_pow", []⟩, ⟨"gf_poly_scale", []⟩, ⟨"gf_poly_add", []⟩, ⟨"gf_poly_mul", []⟩, ⟨"gf_poly_div", []⟩, ⟨"gf_poly_eval", []⟩, ⟨"rs_generator_poly", []⟩, ⟨"rs_encode_msg", []⟩, ⟨"rs_calc_syndromes", []⟩, ⟨"rs_find_errata_locator", []⟩, ⟨"rs_find_error_evaluator", []⟩, ⟨"rs_correct_errata", []⟩, ⟨"rs_find_error_locator", ["erase_count"]⟩, ⟨"rs_find_errors", []⟩, ⟨"rs_forney_syndromes", []⟩, ⟨"rs_correct_msg", ["erase_pos"]⟩, ⟨"rs_check", []⟩]
noncomputable def gnames : List Str := ["gf_log", "gf_exp", "field_charac"]
noncomputable def ns_init_tables : List (Option Str) := [some "prim", some "generator", some "c_exp", some "field_charac", some "gf_exp", some "gf_log", some "x", some "i"]
noncomputable def b_init_tables : SL :=
  (.cons (.assign 3 (.bi .int (.cons (.bin .Sub (.bin .Pow (.int 2) (.loc 2)) (.int 1)) .nil)))
    (.cons (.assign 4 (.bi .bytearray (.cons (.bin .Mult (.loc 3) (.int 2)) .nil)))
    (.cons (.assign 5 (.bi .bytearray (.cons (.bin .Add (.loc 3) (.int 1)) .nil)))
    (.cons (.assign 6 (.int 1))
    (.cons (.forR 7 false (.int 0) (.loc 3) (.cons (.setI (.loc 4) (.loc 7) (.loc 6))
    (.cons (.setI (.loc 5) (.loc 6) (.loc 7))
    (.cons (.assign 6 (.call 0 (.cons (.loc 6) (.cons (.loc 1) (.cons (.loc 0) (.cons (.bin .Add (.loc 3) (.int 1)) .nil)))) .nil))
    .nil))))
    (.cons (.forR 7 true (.loc 3) (.bin .Mult (.loc 3) (.int 2)) (.cons (.setI (.loc 4) (.loc 7) (.idx (.loc 4) (.bin .Sub (.loc 7) (.loc 3))))
    .nil))
    (.cons (.retM false (.cons (.loc 5) (.cons (.loc 4) (.cons (.loc 3) .nil))))
    .nil)))))))
noncomputable def ns_gf_sub : List (Option Str) := [some "x", some "y"]
noncomputable def b_gf_sub : SL :=
  (.cons (.ret (.bin .BitXor (.loc 0) (.loc 1)))
    .nil)
noncomputable def ns_gf_inverse : List (Option Str) := [some "x"]
noncomputable def b_gf_inverse : SL :=
  (.cons (.ret (.idx (.gv 1) (.bin .Sub (.gv 2) (.idx (.gv 0) (.loc 0)))))
    .nil)
noncomputable def ns_gf_mul : List (Option Str) := [some "x", some "y"]
noncomputable def b_gf_mul : SL :=
  (.cons (.iff (.or (.cons (.cmp .Eq (.loc 0) (.int 0)) (.cons (.cmp .Eq (.loc 1) (.int 0)) .nil))) (.cons (.ret (.int 0))
    .nil) .nil)
    (.cons (.ret (.idx (.gv 1) (.bin .Mod (.bin .Add (.idx (.gv 0) (.loc 0)) (.idx (.gv 0) (.loc 1))) (.gv 2))))
    .nil))
noncomputable def ns_gf_div : List (Option Str) := [some "x", some "y"]
noncomputable def b_gf_div : SL :=
  (.cons (.iff (.cmp .Eq (.loc 1) (.int 0)) (.cons .raise
    .nil) .nil)
    (.cons (.iff (.cmp .Eq (.loc 0) (.int 0)) (.cons (.ret (.int 0))
    .nil) .nil)
    (.cons (.ret (.idx (.gv 1) (.bin .Mod (.bin .Sub (.bin .Add (.idx (.gv 0) (.loc 0)) (.gv 2)) (.idx (.gv 0) (.loc 1))) (.gv 2))))
    .nil)))
noncomputable def ns_gf_pow : List (Option Str) := [some "x", some "power"]
noncomputable def b_gf_pow : SL :=
  (.cons (.ret (.idx (.gv 1) (.bin .Mod (.bin .Mult (.idx (.gv 0) (.loc 0)) (.loc 1)) (.gv 2))))
    .nil)
noncomputable def ns_gf_mult_noLUT : List (Option Str) := [some "x", some "y", some "prim", some "field_charac_full", some "carryless", some "r"]
noncomputable def b_gf_mult_noLUT : SL :=
  (.cons (.assign 5 (.int 0))
    (.cons (.whil (.loc 1) (.cons (.iff (.bin .BitAnd (.loc 1) (.int 1)) (.cons (.assign 5 (.ite (.loc 4) (.bin .BitXor (.loc 5) (.loc 0)) (.bin .Add (.loc 5) (.loc 0))))
    .nil) .nil)
    (.cons (.assign 1 (.bin .RShift (.loc 1) (.int 1)))
    (.cons (.assign 0 (.bin .LShift (.loc 0) (.int 1)))
    (.cons (.iff (.and (.cons (.cmp .Gt (.loc 2) (.int 0)) (.cons (.bin .BitAnd (.loc 0) (.loc 3)) .nil))) (.cons (.assign 0 (.bin .BitXor (.loc 0) (.loc 2)))
    .nil) .nil)
    .nil)))))
    (.cons (.ret (.loc 5))
    .nil)))
noncomputable def ns_gf_poly_scale : List (Option Str) := [some "p", some "x", none]
noncomputable def b_gf_poly_scale : SL :=
  (.cons (.ret (.bi .bytearray (.cons (.compR 2 (.bi .len (.cons (.loc 0) .nil)) (.call 4 (.cons (.idx (.loc 0) (.loc 2)) (.cons (.loc 1) .nil)) .nil)) .nil)))
    .nil)
noncomputable def ns_gf_poly_add : List (Option Str) := [some "p", some "q", some "r", some "i"]
noncomputable def b_gf_poly_add : SL :=
  (.cons (.assign 2 (.bi .bytearray (.cons (.bi .max (.cons (.bi .len (.cons (.loc 0) .nil)) (.cons (.bi .len (.cons (.loc 1) .nil)) .nil))) .nil)))
    (.cons (.setS (.loc 2) (.bin .Sub (.bi .len (.cons (.loc 2) .nil)) (.bi .len (.cons (.loc 0) .nil))) (.bi .len (.cons (.loc 2) .nil)) (.loc 0))
    (.cons (.forR 3 false (.int 0) (.bi .len (.cons (.loc 1) .nil)) (.cons (.augI (.loc 2) (.bin .Sub (.bin .Add (.loc 3) (.bi .len (.cons (.loc 2) .nil))) (.bi .len (.cons (.loc 1) .nil))) .BitXor (.idx (.loc 1) (.loc 3)))
    .nil))
    (.cons (.ret (.loc 2))
    .nil))))
noncomputable def ns_gf_poly_mul : List (Option Str) := [some "p", some "q", some "r", some "lp", some "j", some "qj", some "lq", some "i", none]
noncomputable def b_gf_poly_mul : SL :=
  (.cons (.assign 2 (.bi .bytearray (.cons (.bin .Sub (.bin .Add (.bi .len (.cons (.loc 0) .nil)) (.bi .len (.cons (.loc 1) .nil))) (.int 1)) .nil)))
    (.cons (.assignC 3 (.compR 8 (.bi .len (.cons (.loc 0) .nil)) (.idx (.gv 0) (.idx (.loc 0) (.loc 8)))))
    (.cons (.forR 4 false (.int 0) (.bi .len (.cons (.loc 1) .nil)) (.cons (.assign 5 (.idx (.loc 1) (.loc 4)))
    (.cons (.iff (.cmp .NotEq (.loc 5) (.int 0)) (.cons (.assign 6 (.idx (.gv 0) (.loc 5)))
    (.cons (.forR 7 false (.int 0) (.bi .len (.cons (.loc 0) .nil)) (.cons (.iff (.cmp .NotEq (.idx (.loc 0) (.loc 7)) (.int 0)) (.cons (.augI (.loc 2) (.bin .Add (.loc 7) (.loc 4)) .BitXor (.idx (.gv 1) (.bin .Add (.idx (.loc 3) (.loc 7)) (.loc 6))))
    .nil) .nil)
    .nil))
    .nil)) .nil)
    .nil)))
    (.cons (.ret (.loc 2))
    .nil))))
noncomputable def ns_gf_poly_div : List (Option Str) := [some "dividend", some "divisor", some "msg_out", some "i", some "coef", some "j", some "separator"]
noncomputable def b_gf_poly_div : SL :=
  (.cons (.assign 2 (.bi .bytearray (.cons (.loc 0) .nil)))
    (.cons (.forR 3 false (.int 0) (.bin .Sub (.bi .len (.cons (.loc 0) .nil)) (.bin .Sub (.bi .len (.cons (.loc 1) .nil)) (.int 1))) (.cons (.assign 4 (.idx (.loc 2) (.loc 3)))
    (.cons (.iff (.cmp .NotEq (.loc 4) (.int 0)) (.cons (.forR 5 true (.int 1) (.bi .len (.cons (.loc 1) .nil)) (.cons (.iff (.cmp .NotEq (.idx (.loc 1) (.loc 5)) (.int 0)) (.cons (.augI (.loc 2) (.bin .Add (.loc 3) (.loc 5)) .BitXor (.call 4 (.cons (.idx (.loc 1) (.loc 5)) (.cons (.loc 4) .nil)) .nil))
    .nil) .nil)
    .nil))
    .nil) .nil)
    .nil)))
    (.cons (.assign 6 (.neg (.bin .Sub (.bi .len (.cons (.loc 1) .nil)) (.int 1))))
    (.cons (.retM true (.cons (.slc (.loc 2) .none (.loc 6) .none) (.cons (.slc (.loc 2) (.loc 6) .none .none) .nil)))
    .nil))))
noncomputable def ns_gf_poly_eval : List (Option Str) := [some "poly", some "x", some "y", some "i"]
noncomputable def b_gf_poly_eval : SL :=
  (.cons (.assign 2 (.idx (.loc 0) (.int 0)))
    (.cons (.forR 3 true (.int 1) (.bi .len (.cons (.loc 0) .nil)) (.cons (.assign 2 (.bin .BitXor (.call 4 (.cons (.loc 2) (.cons (.loc 1) .nil)) .nil) (.idx (.loc 0) (.loc 3))))
    .nil))
    (.cons (.ret (.loc 2))
    .nil)))
noncomputable def ns_rs_generator_poly : List (Option Str) := [some "nsym", some "fcr", some "generator", some "g", some "i"]
noncomputable def b_rs_generator_poly : SL :=
  (.cons (.assign 3 (.bi .bytearray (.cons (.list (.cons (.int 1) .nil)) .nil)))
    (.cons (.forR 4 false (.int 0) (.loc 0) (.cons (.assign 3 (.call 9 (.cons (.loc 3) (.cons (.list (.cons (.int 1) (.cons (.call 6 (.cons (.loc 2) (.cons (.bin .Add (.loc 4) (.loc 1)) .nil)) .nil) .nil))) .nil)) .nil))
    .nil))
    (.cons (.ret (.loc 3))
    .nil)))
noncomputable def ns_rs_encode_msg : List (Option Str) := [some "msg_in", some "nsym", some "fcr", some "generator", some "gen", some "msg_out", some "lgen", some "i", some "coef", some "lcoef", some "j", none]
noncomputable def b_rs_encode_msg : SL :=
  (.cons (.iff (.cmp .Gt (.bin .Add (.bi .len (.cons (.loc 0) .nil)) (.loc 1)) (.gv 2)) (.cons .raise
    .nil) .nil)
    (.cons (.iff (.cmp .Is (.loc 4) .none) (.cons (.assign 4 (.call 12 (.cons (.loc 1) (.cons (.loc 2) (.cons (.loc 3) .nil))) .nil))
    .nil) .nil)
    (.cons (.assign 0 (.bi .bytearray (.cons (.loc 0) .nil)))
    (.cons (.assign 5 (.bin .Add (.bi .bytearray (.cons (.loc 0) .nil)) (.bi .bytearray (.cons (.bin .Sub (.bi .len (.cons (.loc 4) .nil)) (.int 1)) .nil))))
    (.cons (.assign 6 (.bi .bytearray (.cons (.compR 11 (.bi .len (.cons (.loc 4) .nil)) (.idx (.gv 0) (.idx (.loc 4) (.loc 11)))) .nil)))
    (.cons (.forR 7 false (.int 0) (.bi .len (.cons (.loc 0) .nil)) (.cons (.assign 8 (.idx (.loc 5) (.loc 7)))
    (.cons (.iff (.cmp .NotEq (.loc 8) (.int 0)) (.cons (.assign 9 (.idx (.gv 0) (.loc 8)))
    (.cons (.forR 10 true (.int 1) (.bi .len (.cons (.loc 4) .nil)) (.cons (.augI (.loc 5) (.bin .Add (.loc 7) (.loc 10)) .BitXor (.idx (.gv 1) (.bin .Add (.loc 9) (.idx (.loc 6) (.loc 10)))))
    .nil))
    .nil)) .nil)
    .nil)))
    (.cons (.setS (.loc 5) .none (.bi .len (.cons (.loc 0) .nil)) (.loc 0))
    (.cons (.ret (.loc 5))
    .nil))))))))
noncomputable def ns_rs_calc_syndromes : List (Option Str) := [some "msg", some "nsym", some "fcr", some "generator", none]
noncomputable def b_rs_calc_syndromes : SL :=
  (.cons (.ret (.bin .Add (.list (.cons (.int 0) .nil)) (.compR 4 (.loc 1) (.call 11 (.cons (.loc 0) (.cons (.call 6 (.cons (.loc 3) (.cons (.bin .Add (.loc 4) (.loc 2)) .nil)) .nil) .nil)) .nil))))
    .nil)
noncomputable def ns_rs_correct_errata : List (Option Str) := [some "msg_in", some "synd", some "err_pos", some "fcr", some "generator", some "msg", some "coef_pos", some "err_loc", some "err_eval", some "X", some "i", some "l", some "E", some "Xlength", some "Xi", some "Xi_inv", some "err_loc_prime_tmp", some "j", some "err_loc_prime", some "coef", some "y", some "magnitude", none]
noncomputable def b_rs_correct_errata : SL :=
  (.cons (.assign 5 (.bi .bytearray (.cons (.loc 0) .nil)))
    (.cons (.assignC 6 (.compL 22 (.loc 2) (.bin .Sub (.bin .Sub (.bi .len (.cons (.loc 5) .nil)) (.int 1)) (.loc 22))))
    (.cons (.assign 7 (.call 15 (.cons (.loc 6) (.cons (.loc 4) .nil)) .nil))
    (.cons (.assign 8 (.slc (.call 16 (.cons (.slc (.loc 1) .none .none (.neg (.int 1))) (.cons (.loc 7) (.cons (.bin .Sub (.bi .len (.cons (.loc 7) .nil)) (.int 1)) .nil))) .nil) .none .none (.neg (.int 1))))
    (.cons (.assign 9 (.list .nil))
    (.cons (.forR 10 false (.int 0) (.bi .len (.cons (.loc 6) .nil)) (.cons (.assign 11 (.bin .Sub (.gv 2) (.idx (.loc 6) (.loc 10))))
    (.cons (.app (.loc 9) (.call 6 (.cons (.loc 4) (.cons (.neg (.loc 11)) .nil)) .nil))
    .nil)))
    (.cons (.assign 12 (.bi .bytearray (.cons (.bi .len (.cons (.loc 5) .nil)) .nil)))
    (.cons (.assign 13 (.bi .len (.cons (.loc 9) .nil)))
    (.cons (.forE 10 14 (.loc 9) (.cons (.assign 15 (.call 3 (.cons (.loc 14) .nil) .nil))
    (.cons (.assign 16 (.list .nil))
    (.cons (.forR 17 false (.int 0) (.loc 13) (.cons (.iff (.cmp .NotEq (.loc 17) (.loc 10)) (.cons (.app (.loc 16) (.call 2 (.cons (.int 1) (.cons (.call 4 (.cons (.loc 15) (.cons (.idx (.loc 9) (.loc 17)) .nil)) .nil) .nil)) .nil))
    .nil) .nil)
    .nil))
    (.cons (.assign 18 (.int 1))
    (.cons (.forL 19 (.loc 16) (.cons (.assign 18 (.call 4 (.cons (.loc 18) (.cons (.loc 19) .nil)) .nil))
    .nil))
    (.cons (.iff (.cmp .Eq (.loc 18) (.int 0)) (.cons .raise
    .nil) .nil)
    (.cons (.assign 20 (.call 11 (.cons (.slc (.loc 8) .none .none (.neg (.int 1))) (.cons (.loc 15) .nil)) .nil))
    (.cons (.assign 20 (.call 4 (.cons (.call 6 (.cons (.loc 14) (.cons (.bin .Sub (.int 1) (.loc 3)) .nil)) .nil) (.cons (.loc 20) .nil)) .nil))
    (.cons (.assign 21 (.call 5 (.cons (.loc 20) (.cons (.loc 18) .nil)) .nil))
    (.cons (.setI (.loc 12) (.idx (.loc 2) (.loc 10)) (.loc 21))
    .nil)))))))))))
    (.cons (.assign 5 (.call 8 (.cons (.loc 5) (.cons (.loc 12) .nil)) .nil))
    (.cons (.ret (.loc 5))
    .nil)))))))))))
noncomputable def ns_rs_find_error_locator : List (Option Str) := [some "synd", some "nsym", some "erase_loc", some "erase_count", some "err_loc", some "old_loc", some "synd_shift", some "i", some "K", some "delta", some "j", some "new_loc", some "errs"]
noncomputable def b_rs_find_error_locator : SL :=
  (.cons (.iff (.loc 2) (.cons (.assign 4 (.bi .bytearray (.cons (.loc 2) .nil)))
    (.cons (.assign 5 (.bi .bytearray (.cons (.loc 2) .nil)))
    .nil)) (.cons (.assign 4 (.bi .bytearray (.cons (.list (.cons (.int 1) .nil)) .nil)))
    (.cons (.assign 5 (.bi .bytearray (.cons (.list (.cons (.int 1) .nil)) .nil)))
    .nil)))
    (.cons (.assign 6 (.int 0))
    (.cons (.iff (.cmp .Gt (.bi .len (.cons (.loc 0) .nil)) (.loc 1)) (.cons (.assign 6 (.bin .Sub (.bi .len (.cons (.loc 0) .nil)) (.loc 1)))
    .nil) .nil)
    (.cons (.forR 7 false (.int 0) (.bin .Sub (.loc 1) (.loc 3)) (.cons (.iff (.loc 2) (.cons (.assign 8 (.bin .Add (.bin .Add (.loc 3) (.loc 7)) (.loc 6)))
    .nil) (.cons (.assign 8 (.bin .Add (.loc 7) (.loc 6)))
    .nil))
    (.cons (.assign 9 (.idx (.loc 0) (.loc 8)))
    (.cons (.forR 10 true (.int 1) (.bi .len (.cons (.loc 4) .nil)) (.cons (.augL 9 .BitXor (.call 4 (.cons (.idx (.loc 4) (.neg (.bin .Add (.loc 10) (.int 1)))) (.cons (.idx (.loc 0) (.bin .Sub (.loc 8) (.loc 10))) .nil)) .nil))
    .nil))
    (.cons (.assign 5 (.bin .Add (.loc 5) (.bi .bytearray (.cons (.list (.cons (.int 0) .nil)) .nil))))
    (.cons (.iff (.cmp .NotEq (.loc 9) (.int 0)) (.cons (.iff (.cmp .Gt (.bi .len (.cons (.loc 5) .nil)) (.bi .len (.cons (.loc 4) .nil))) (.cons (.assign 11 (.call 7 (.cons (.loc 5) (.cons (.loc 9) .nil)) .nil))
    (.cons (.assign 5 (.call 7 (.cons (.loc 4) (.cons (.call 3 (.cons (.loc 9) .nil) .nil) .nil)) .nil))
    (.cons (.assign 4 (.loc 11))
    .nil))) .nil)
    (.cons (.assign 4 (.call 8 (.cons (.loc 4) (.cons (.call 7 (.cons (.loc 5) (.cons (.loc 9) .nil)) .nil) .nil)) .nil))
    .nil)) .nil)
    .nil))))))
    (.cons (.assign 4 (.bi .lst (.cons (.loc 4) .nil)))
    (.cons (.whil (.and (.cons (.loc 4) (.cons (.cmp .Eq (.idx (.loc 4) (.int 0)) (.int 0)) .nil))) (.cons (.pop0 (.loc 4))
    .nil))
    (.cons (.assign 12 (.bin .Sub (.bi .len (.cons (.loc 4) .nil)) (.int 1)))
    (.cons (.iff (.cmp .Gt (.bin .Add (.bin .Mult (.bin .Sub (.loc 12) (.loc 3)) (.int 2)) (.loc 3)) (.loc 1)) (.cons .raise
    .nil) .nil)
    (.cons (.ret (.loc 4))
    .nil)))))))))
noncomputable def ns_rs_find_errata_locator : List (Option Str) := [some "e_pos", some "generator", some "e_loc", some "i"]
noncomputable def b_rs_find_errata_locator : SL :=
  (.cons (.assign 2 (.list (.cons (.int 1) .nil)))
    (.cons (.forL 3 (.loc 0) (.cons (.assign 2 (.call 9 (.cons (.loc 2) (.cons (.call 8 (.cons (.bi .bytearray (.cons (.list (.cons (.int 1) .nil)) .nil)) (.cons (.list (.cons (.call 6 (.cons (.loc 1) (.cons (.loc 3) .nil)) .nil) (.cons (.int 0) .nil))) .nil)) .nil) .nil)) .nil))
    .nil))
    (.cons (.ret (.loc 2))
    .nil)))
noncomputable def ns_rs_find_error_evaluator : List (Option Str) := [some "synd", some "err_loc", some "nsym", some "_", some "remainder"]
noncomputable def b_rs_find_error_evaluator : SL :=
  (.cons (.unpack [3, 4] 10 (.cons (.call 9 (.cons (.loc 0) (.cons (.loc 1) .nil)) .nil) (.cons (.bin .Add (.list (.cons (.int 1) .nil)) (.bin .Mult (.list (.cons (.int 0) .nil)) (.bin .Add (.loc 2) (.int 1)))) .nil)) .nil)
    (.cons (.ret (.loc 4))
    .nil))
noncomputable def ns_rs_find_errors : List (Option Str) := [some "err_loc", some "nmess", some "generator", some "errs", some "err_pos", some "i"]
noncomputable def b_rs_find_errors : SL :=
  (.cons (.assign 3 (.bin .Sub (.bi .len (.cons (.loc 0) .nil)) (.int 1)))
    (.cons (.assign 4 (.list .nil))
    (.cons (.forR 5 false (.int 0) (.loc 1) (.cons (.iff (.cmp .Eq (.call 11 (.cons (.loc 0) (.cons (.call 6 (.cons (.loc 2) (.cons (.loc 5) .nil)) .nil) .nil)) .nil) (.int 0)) (.cons (.app (.loc 4) (.bin .Sub (.bin .Sub (.loc 1) (.int 1)) (.loc 5)))
    .nil) .nil)
    .nil))
    (.cons (.iff (.cmp .NotEq (.bi .len (.cons (.loc 4) .nil)) (.loc 3)) (.cons .raise
    .nil) .nil)
    (.cons (.ret (.loc 4))
    .nil)))))
noncomputable def ns_rs_forney_syndromes : List (Option Str) := [some "synd", some "pos", some "nmess", some "generator", some "erase_pos_reversed", some "fsynd", some "i", some "x", some "j", none]
noncomputable def b_rs_forney_syndromes : SL :=
  (.cons (.assignC 4 (.compL 9 (.loc 1) (.bin .Sub (.bin .Sub (.loc 2) (.int 1)) (.loc 9))))
    (.cons (.assign 5 (.bi .lst (.cons (.slc (.loc 0) (.int 1) .none .none) .nil)))
    (.cons (.forR 6 false (.int 0) (.bi .len (.cons (.loc 1) .nil)) (.cons (.assign 7 (.call 6 (.cons (.loc 3) (.cons (.idx (.loc 4) (.loc 6)) .nil)) .nil))
    (.cons (.forR 8 false (.int 0) (.bin .Sub (.bi .len (.cons (.loc 5) .nil)) (.int 1)) (.cons (.setI (.loc 5) (.loc 8) (.bin .BitXor (.call 4 (.cons (.idx (.loc 5) (.loc 8)) (.cons (.loc 7) .nil)) .nil) (.idx (.loc 5) (.bin .Add (.loc 8) (.int 1)))))
    .nil))
    .nil)))
    (.cons (.ret (.loc 5))
    .nil))))
noncomputable def ns_rs_correct_msg : List (Option Str) := [some "msg_in", some "nsym", some "fcr", some "generator", some "erase_pos", some "only_erasures", some "msg_out", some "e_pos", some "synd", some "err_pos", some "fsynd", some "err_loc"]
noncomputable def b_rs_correct_msg : SL :=
  (.cons (.iff (.cmp .Gt (.bi .len (.cons (.loc 0) .nil)) (.gv 2)) (.cons .raise
    .nil) .nil)
    (.cons (.assign 6 (.bi .bytearray (.cons (.loc 0) .nil)))
    (.cons (.iff (.cmp .Is (.loc 4) .none) (.cons (.assign 4 (.list .nil))
    .nil) (.cons (.forL 7 (.loc 4) (.cons (.setI (.loc 6) (.loc 7) (.int 0))
    .nil))
    .nil))
    (.cons (.iff (.cmp .Gt (.bi .len (.cons (.loc 4) .nil)) (.loc 1)) (.cons .raise
    .nil) .nil)
    (.cons (.assign 8 (.call 14 (.cons (.loc 6) (.cons (.loc 1) (.cons (.loc 2) (.cons (.loc 3) .nil)))) .nil))
    (.cons (.iff (.cmp .Eq (.bi .max (.cons (.loc 8) .nil)) (.int 0)) (.cons (.retM true (.cons (.slc (.loc 6) .none (.neg (.loc 1)) .none) (.cons (.slc (.loc 6) (.neg (.loc 1)) .none .none) (.cons (.loc 4) .nil))))
    .nil) .nil)
    (.cons (.iff (.loc 5) (.cons (.assign 9 (.list .nil))
    .nil) (.cons (.assign 10 (.call 20 (.cons (.loc 8) (.cons (.loc 4) (.cons (.bi .len (.cons (.loc 6) .nil)) (.cons (.loc 3) .nil)))) .nil))
    (.cons (.assign 11 (.call 18 (.cons (.loc 10) (.cons (.loc 1) .nil)) (.cons (.bi .len (.cons (.loc 4) .nil)) .nil)))
    (.cons (.assign 9 (.call 19 (.cons (.slc (.loc 11) .none .none (.neg (.int 1))) (.cons (.bi .len (.cons (.loc 6) .nil)) (.cons (.loc 3) .nil))) .nil))
    (.cons (.iff (.cmp .Is (.loc 9) .none) (.cons .raise
    .nil) .nil)
    .nil)))))
    (.cons (.assign 6 (.call 17 (.cons (.loc 6) (.cons (.loc 8) (.cons (.bin .Add (.loc 4) (.loc 9)) (.cons (.loc 2) (.cons (.loc 3) .nil))))) .nil))
    (.cons (.assign 8 (.call 14 (.cons (.loc 6) (.cons (.loc 1) (.cons (.loc 2) (.cons (.loc 3) .nil)))) .nil))
    (.cons (.iff (.cmp .Gt (.bi .max (.cons (.loc 8) .nil)) (.int 0)) (.cons .raise
    .nil) .nil)
    (.cons (.retM true (.cons (.slc (.loc 6) .none (.neg (.loc 1)) .none) (.cons (.slc (.loc 6) (.neg (.loc 1)) .none .none) (.cons (.bin .Add (.loc 4) (.loc 9)) .nil))))
    .nil)))))))))))
noncomputable def ns_rs_check : List (Option Str) := [some "msg", some "nsym", some "fcr", some "generator"]
noncomputable def b_rs_check : SL :=
  (.cons (.ret (.cmp .Eq (.bi .max (.cons (.call 14 (.cons (.loc 0) (.cons (.loc 1) (.cons (.loc 2) (.cons (.loc 3) .nil)))) .nil) .nil)) (.int 0)))
    .nil)
noncomputable def ns_law : List (Option Str) := [some "script", some "numbers", some "checks", some "size", some "message", some "whole", some "spoilt", some "told", some "wrong", some "place", some "number", some "where", some "known", some "cost", some "mended", some "check", some "places", none]
noncomputable def b_law : SL :=
  (.cons (.assign 1 (.bin .Add (.loc 0) (.slc (.list (.cons (.int 3) (.cons (.int 4) (.cons (.int 65) (.cons (.int 66) (.cons (.int 7) (.cons (.int 1) (.cons (.int 200) .nil)))))))) (.bi .len (.cons (.loc 0) .nil)) .none .none)))
    (.cons (.assign 2 (.bin .Add (.bin .Mod (.idx (.loc 1) (.int 0)) (.int 6)) (.int 1)))
    (.cons (.assign 3 (.bin .Add (.bin .Mod (.idx (.loc 1) (.int 1)) (.int 10)) (.int 1)))
    (.cons (.assign 4 (.bi .bytearray (.cons (.compR 17 (.loc 3) (.bin .Mod (.bin .FloorDiv (.idx (.loc 1) (.bin .Add (.int 2) (.bin .Mod (.loc 17) (.bin .Sub (.bi .len (.cons (.loc 1) .nil)) (.int 2))))) (.bin .Add (.loc 17) (.int 1))) (.int 256))) .nil)))
    (.cons (.assign 5 (.call 13 (.cons (.loc 4) (.cons (.loc 2) .nil)) .nil))
    (.cons (.iff (.or (.cons (.cmp .NotEq (.bi .lst (.cons (.slc (.loc 5) .none (.loc 3) .none) .nil)) (.bi .lst (.cons (.loc 4) .nil))) (.cons (.cmp .NotEq (.bi .len (.cons (.loc 5) .nil)) (.bin .Add (.loc 3) (.loc 2))) (.cons (.not (.call 22 (.cons (.loc 5) (.cons (.loc 2) .nil)) .nil)) .nil)))) (.cons (.ret (.bool false))
    .nil) .nil)
    (.cons (.assign 6 (.bi .bytearray (.cons (.loc 5) .nil)))
    (.cons (.assign 7 (.list .nil))
    (.cons (.assign 8 (.list .nil))
    (.cons (.forE 9 10 (.slc (.loc 1) (.int 2) .none .none) (.cons (.assign 11 (.bin .Mod (.loc 10) (.bi .len (.cons (.loc 5) .nil))))
    (.cons (.assign 12 (.cmp .Eq (.bin .Mod (.bin .FloorDiv (.loc 10) (.int 100)) (.int 2)) (.int 0)))
    (.cons (.assign 13 (.bin .Add (.bin .Add (.bin .Mult (.int 2) (.bi .len (.cons (.loc 8) .nil))) (.bi .len (.cons (.loc 7) .nil))) (.ite (.loc 12) (.int 1) (.int 2))))
    (.cons (.iff (.and (.cons (.cmp .NotIn (.loc 11) (.loc 7)) (.cons (.cmp .NotIn (.loc 11) (.loc 8)) (.cons (.cmp .LtE (.loc 13) (.loc 2)) .nil)))) (.cons (.setI (.loc 6) (.loc 11) (.bin .BitXor (.idx (.loc 6) (.loc 11)) (.bin .Add (.bin .Mod (.bin .FloorDiv (.loc 10) (.int 200)) (.int 255)) (.int 1))))
    (.cons (.iff (.loc 12) (.cons (.app (.loc 7) (.loc 11))
    .nil) (.cons (.app (.loc 8) (.loc 11))
    .nil))
    .nil)) .nil)
    .nil)))))
    (.cons (.unpack [14, 15, 16] 21 (.cons (.loc 6) (.cons (.loc 2) .nil)) (.cons (.bi .lst (.cons (.loc 7) .nil)) .nil))
    (.cons (.iff (.cmp .NotEq (.bin .Add (.bi .lst (.cons (.loc 14) .nil)) (.bi .lst (.cons (.loc 15) .nil))) (.bi .lst (.cons (.loc 5) .nil))) (.cons (.ret (.bool false))
    .nil) .nil)
    (.cons (.ret (.or (.cons (.cmp .Eq (.loc 8) (.list .nil)) (.cons (.cmp .Eq (.bi .sorted (.cons (.loc 16) .nil)) (.bi .sorted (.cons (.bin .Add (.loc 7) (.loc 8)) .nil))) .nil))))
    .nil)))))))))))))
noncomputable def defsOf : List Stmt → Str → Option (Arguments × List Stmt × Scope)
  | [], _ => none
  | .FunctionDef n a b _ _ _ sc _ _ _ :: r, x => if n == x then some (a, b, sc) else defsOf r x
  | _ :: r, x => defsOf r x
noncomputable def defOf (x : Str) : Arguments × List Stmt × Scope := (defsOf PySem.Challenge.pw_md0036_01.main.body x).getD default
noncomputable def tx (x : Str) (ns : List (Option Str)) : Tx := ⟨forms, gnames, (defOf x).2.2, ns, true⟩
theorem is_init_tables : isSL (tx "init_tables" ns_init_tables) b_init_tables (defOf "init_tables").2.1 = true := by decide +kernel
theorem is_gf_sub : isSL (tx "gf_sub" ns_gf_sub) b_gf_sub (defOf "gf_sub").2.1 = true := by decide +kernel
theorem is_gf_inverse : isSL (tx "gf_inverse" ns_gf_inverse) b_gf_inverse (defOf "gf_inverse").2.1 = true := by decide +kernel
theorem is_gf_mul : isSL (tx "gf_mul" ns_gf_mul) b_gf_mul (defOf "gf_mul").2.1 = true := by decide +kernel
theorem is_gf_div : isSL (tx "gf_div" ns_gf_div) b_gf_div (defOf "gf_div").2.1 = true := by decide +kernel
theorem is_gf_pow : isSL (tx "gf_pow" ns_gf_pow) b_gf_pow (defOf "gf_pow").2.1 = true := by decide +kernel
theorem is_gf_mult_noLUT : isSL (tx "gf_mult_noLUT" ns_gf_mult_noLUT) b_gf_mult_noLUT (defOf "gf_mult_noLUT").2.1 = true := by decide +kernel
theorem is_gf_poly_scale : isSL (tx "gf_poly_scale" ns_gf_poly_scale) b_gf_poly_scale (defOf "gf_poly_scale").2.1 = true := by decide +kernel
theorem is_gf_poly_add : isSL (tx "gf_poly_add" ns_gf_poly_add) b_gf_poly_add (defOf "gf_poly_add").2.1 = true := by decide +kernel
theorem is_gf_poly_mul : isSL (tx "gf_poly_mul" ns_gf_poly_mul) b_gf_poly_mul (defOf "gf_poly_mul").2.1 = true := by decide +kernel
theorem is_gf_poly_div : isSL (tx "gf_poly_div" ns_gf_poly_div) b_gf_poly_div (defOf "gf_poly_div").2.1 = true := by decide +kernel
theorem is_gf_poly_eval : isSL (tx "gf_poly_eval" ns_gf_poly_eval) b_gf_poly_eval (defOf "gf_poly_eval").2.1 = true := by decide +kernel
theorem is_rs_generator_poly : isSL (tx "rs_generator_poly" ns_rs_generator_poly) b_rs_generator_poly (defOf "rs_generator_poly").2.1 = true := by decide +kernel
theorem is_rs_encode_msg : isSL (tx "rs_encode_msg" ns_rs_encode_msg) b_rs_encode_msg (defOf "rs_encode_msg").2.1 = true := by decide +kernel
theorem is_rs_calc_syndromes : isSL (tx "rs_calc_syndromes" ns_rs_calc_syndromes) b_rs_calc_syndromes (defOf "rs_calc_syndromes").2.1 = true := by decide +kernel
theorem is_rs_correct_errata : isSL (tx "rs_correct_errata" ns_rs_correct_errata) b_rs_correct_errata (defOf "rs_correct_errata").2.1 = true := by decide +kernel
theorem is_rs_find_error_locator : isSL (tx "rs_find_error_locator" ns_rs_find_error_locator) b_rs_find_error_locator (defOf "rs_find_error_locator").2.1 = true := by decide +kernel
theorem is_rs_find_errata_locator : isSL (tx "rs_find_errata_locator" ns_rs_find_errata_locator) b_rs_find_errata_locator (defOf "rs_find_errata_locator").2.1 = true := by decide +kernel
theorem is_rs_find_error_evaluator : isSL (tx "rs_find_error_evaluator" ns_rs_find_error_evaluator) b_rs_find_error_evaluator (defOf "rs_find_error_evaluator").2.1 = true := by decide +kernel
theorem is_rs_find_errors : isSL (tx "rs_find_errors" ns_rs_find_errors) b_rs_find_errors (defOf "rs_find_errors").2.1 = true := by decide +kernel
theorem is_rs_forney_syndromes : isSL (tx "rs_forney_syndromes" ns_rs_forney_syndromes) b_rs_forney_syndromes (defOf "rs_forney_syndromes").2.1 = true := by decide +kernel
theorem is_rs_correct_msg : isSL (tx "rs_correct_msg" ns_rs_correct_msg) b_rs_correct_msg (defOf "rs_correct_msg").2.1 = true := by decide +kernel
theorem is_rs_check : isSL (tx "rs_check" ns_rs_check) b_rs_check (defOf "rs_check").2.1 = true := by decide +kernel
theorem is_law : isSL (tx "law" ns_law) b_law (defOf "law").2.1 = true := by decide +kernel
end Mine
end
section
open PySem PyProof.Rows
namespace Mine
theorem len_s {α : Type} {l : List α} {n : Nat} (h : l.length = n + 1) : ∃ a r, l = a :: r ∧ r.length = n := by
  induction l with
  | nil => exact nomatch h
  | cons a r => exact ⟨a, r, rfl, Nat.succ.inj h⟩
noncomputable def Kont (Gf : Fns) (gs : List V) (n : Nat) (r : SL) (Q : QS) : QS := fun fl st1 => match fl with
  | .next => wSL Gf gs n r st1 Q
  | .ret v => Q (.ret v) st1
noncomputable def Turn (n : Nat) (J : St → Prop) : QS := fun fl st2 => fl = .next ∧ ∃ ρ st3, View n ρ st2 st3 ∧ J st3
noncomputable def TurnM (n m : Nat) (J : Nat → St → Prop) : QS := fun fl st2 => fl = .next ∧ ∃ ρ st3 m', View n ρ st2 st3 ∧ m' < m ∧ J m' st3
section
variable {Gf : Fns} {gs : List V} {n : Nat} {Q : QS} {loc : Loc} {hp : List O} {st : St}
theorem sl_cons {s : S} {r : SL} : wSL Gf gs n (.cons s r) st Q = wS Gf gs n s st (Kont Gf gs n r Q) := rfl
theorem sl_nil : wSL Gf gs n .nil st Q = Q .next st := rfl
theorem kont_next {r : SL} : Kont Gf gs n r Q .next st = wSL Gf gs n r st Q := rfl
theorem kont_ret {r : SL} {v : Res} : Kont Gf gs n r Q (.ret v) st = Q (.ret v) st := rfl
theorem s_assign {k : Nat} {e : X} : wS Gf gs n (.assign k e) ⟨loc, hp⟩ Q = wX Gf gs e loc hp fun v hp => Q .next ⟨loc.set k v, hp⟩ := rfl
theorem s_assignC {k : Nat} {e : X} : wS Gf gs n (.assignC k e) ⟨loc, hp⟩ Q = wX Gf gs e loc hp fun v hp => Q .next ⟨loc.set k v, hp⟩ := rfl
theorem s_iff {c : X} {t e : SL} : wS Gf gs n (.iff c t e) ⟨loc, hp⟩ Q = wC Gf gs c loc hp fun b hp1 => match b with
    | true => wSL Gf gs n t ⟨loc, hp1⟩ Q
    | false => wSL Gf gs n e ⟨loc, hp1⟩ Q := rfl
theorem s_ret {e : X} : wS Gf gs n (.ret e) ⟨loc, hp⟩ Q = wX Gf gs e loc hp fun v hp1 => Q (.ret (.one v)) ⟨loc, hp1⟩ := rfl
theorem s_retM {tup : Bool} {xs : XL} : wS Gf gs n (.retM tup xs) ⟨loc, hp⟩ Q = wXL Gf gs xs loc hp fun vs hp1 => vs.length ≤ SZ ∧ Q (.ret (.many tup vs)) ⟨loc, hp1⟩ := rfl
noncomputable def wSetI (n : Nat) (loc : Loc) (u iv v : V) (hp3 : List O) (Q : QS) : Prop := match u, iv, v with
    | .ref r, .int j, .int x => n ≤ r ∧ (match hp3[r]? with
      | some (.bytes l) => isByte x ∧ l.length ≤ SZ ∧ (match pidx j l.length with
        | some p => Q .next ⟨loc, hp3.set r (.bytes (l.set p x.toNat))⟩
        | Option.none => False)
      | some (.nums l) => 0 ≤ j ∧ l.length ≤ SZ ∧ (match pidx j l.length with
        | some p => Q .next ⟨loc, hp3.set r (.nums (l.set p x))⟩
        | Option.none => False)
      | _ => False)
    | _, _, _ => False
theorem s_setI {a i e : X} : wS Gf gs n (.setI a i e) ⟨loc, hp⟩ Q = wX Gf gs e loc hp fun v hp1 => wX Gf gs a loc hp1 fun u hp2 => wX Gf gs i loc hp2 fun iv hp3 => wSetI n loc u iv v hp3 Q := rfl
theorem pidx_nat {j m : Nat} (hj : j < m) : pidx (j : Int) m = some j := by
  unfold pidx
  rw [if_pos (Int.natCast_nonneg j), if_pos (Int.ofNat_lt.mpr hj)]; rfl
theorem st_bytes {r j x : Nat} {l : List Nat} (hr : n ≤ r) (h : hp[r]? = some (.bytes l)) (hj : j < l.length) (hx : x < 256) (hs : l.length ≤ SZ) (q : Q .next ⟨loc, hp.set r (.bytes (l.set j x))⟩) : wSetI n loc (.ref r) (.int (j : Int)) (.int (x : Int)) hp Q := by
  refine ⟨hr, ?_⟩
  rw [h]
  refine ⟨⟨Int.natCast_nonneg x, Int.ofNat_lt.mpr hx⟩, hs, ?_⟩
  rw [pidx_nat hj]
  exact q
theorem st_nums {r j : Nat} {x : Int} {l : List Int} (hr : n ≤ r) (h : hp[r]? = some (.nums l)) (hj : j < l.length) (hs : l.length ≤ SZ) (q : Q .next ⟨loc, hp.set r (.nums (l.set j x))⟩) : wSetI n loc (.ref r) (.int (j : Int)) (.int x) hp Q := by
  refine ⟨hr, ?_⟩
  rw [h]
  refine ⟨Int.natCast_nonneg j, hs, ?_⟩
  rw [pidx_nat hj]
  exact q
noncomputable def wSetS (n : Nat) (loc : Loc) (u v lv hv : V) (hp4 : List O) (Q : QS) : Prop := match u, v, lv.bound, hv.bound with
    | .ref r, .ref t, some lb, some hb => n ≤ r ∧ r ≠ t ∧ (match hp4[r]?, hp4[t]? with
      | some (.bytes l), some (.bytes m) => l.length ≤ SZ ∧ m.length ≤ SZ ∧ (lb.getD 0) ≥ 0 ∧ (lb.getD 0) + m.length = hb.getD l.length ∧ (hb.getD l.length) ≤ l.length ∧
          Q .next ⟨loc, hp4.set r (.bytes (l.take (lb.getD 0).toNat ++ m ++ l.drop (hb.getD l.length).toNat))⟩
      | _, _ => False)
    | _, _, _, _ => False
theorem s_setS {a lo hi e : X} : wS Gf gs n (.setS a lo hi e) ⟨loc, hp⟩ Q = wX Gf gs e loc hp fun v hp1 => wX Gf gs a loc hp1 fun u hp2 => wX Gf gs lo loc hp2 fun lv hp3 => wX Gf gs hi loc hp3 fun hv hp4 => wSetS n loc u v lv hv hp4 Q := rfl
theorem setS_int {r t : Nat} {l m : List Nat} {lo hi : Nat} (hr : n ≤ r) (hrt : r ≠ t) (h : hp[r]? = some (.bytes l)) (h' : hp[t]? = some (.bytes m)) (hs : l.length ≤ SZ) (hlm : lo + m.length = hi) (hh : hi ≤ l.length)
    (q : Q .next ⟨loc, hp.set r (.bytes (l.take lo ++ m ++ l.drop hi))⟩) : wSetS n loc (.ref r) (.ref t) (.int (lo : Int)) (.int (hi : Int)) hp Q := by
  refine ⟨hr, hrt, ?_⟩
  rw [h, h']
  have h1 : m.length ≤ l.length := Nat.le_trans (hlm ▸ Nat.le_add_left _ _) hh
  exact ⟨hs, Nat.le_trans h1 hs, Int.natCast_nonneg lo, congrArg Nat.cast hlm, Int.ofNat_le.mpr hh, q⟩
theorem setS_none {r t : Nat} {l m : List Nat} {hi : Nat} (hr : n ≤ r) (hrt : r ≠ t) (h : hp[r]? = some (.bytes l)) (h' : hp[t]? = some (.bytes m)) (hs : l.length ≤ SZ) (hlm : m.length = hi) (hh : hi ≤ l.length)
    (q : Q .next ⟨loc, hp.set r (.bytes (m ++ l.drop hi))⟩) : wSetS n loc (.ref r) (.ref t) .none (.int (hi : Int)) hp Q := by
  refine ⟨hr, hrt, ?_⟩
  rw [h, h']
  exact ⟨hs, Nat.le_trans (hlm ▸ hh) hs, Int.le_refl 0, (Int.zero_add _).trans (congrArg Nat.cast hlm), Int.ofNat_le.mpr hh, q⟩
theorem s_augL {k : Nat} {op : Operator} {e : X} {i : Int} (hl : loc k = some (.int i)) : wS Gf gs n (.augL k op e) ⟨loc, hp⟩ Q = wX Gf gs e loc hp fun v hp1 => match v with
      | .int j => op = .BitXor ∧ 0 ≤ i ∧ 0 ≤ j ∧ Q .next ⟨loc.set k (.int ((i.toNat ^^^ j.toNat : Nat) : Int)), hp1⟩
      | _ => False := by show (match loc k with | some (.int i) => _ | _ => False) = _; rw [hl]; try rfl
theorem augL_inv {k : Nat} {op : Operator} {e : X} {st : St} (q : wS Gf gs n (.augL k op e) st Q) : ∃ i, st.loc k = some (.int i) ∧ wX Gf gs e st.loc st.hp fun v hp1 => match v with
      | .int j => op = .BitXor ∧ 0 ≤ i ∧ 0 ≤ j ∧ Q .next ⟨st.loc.set k (.int ((i.toNat ^^^ j.toNat : Nat) : Int)), hp1⟩
      | _ => False := by
  replace q : (match st.loc k with
    | some (.int i) => wX Gf gs e st.loc st.hp fun v hp1 => match v with
      | .int j => op = .BitXor ∧ 0 ≤ i ∧ 0 ≤ j ∧ Q .next ⟨st.loc.set k (.int ((i.toNat ^^^ j.toNat : Nat) : Int)), hp1⟩
      | _ => False
    | _ => False) := q
  rcases hl : st.loc k with _ | (_ | _ | i | _) <;> rw [hl] at q
  · exact q.elim
  · exact q.elim
  · exact q.elim
  · exact ⟨i, rfl, q⟩
  · exact q.elim
theorem at_inv {P : Prop} {o : Option O} {F : List Int → Prop} {G : List Nat → Prop} (h : match o with | some (.nums l) => F l | some (.bytes l) => G l | none => False) (k1 : ∀ l, o = some (.nums l) → F l → P) (k2 : ∀ l, o = some (.bytes l) → G l → P) : P := by
  rcases o with _ | (l | l)
  · exact h.elim
  · exact k1 l rfl h
  · exact k2 l rfl h
theorem nums_inv {P : Prop} {o : Option O} {F : List Int → Prop} (h : match o with | some (.nums l) => F l | _ => False) (k1 : ∀ l, o = some (.nums l) → F l → P) : P := by
  rcases o with _ | (l | l)
  · exact h.elim
  · exact k1 l rfl h
  · exact h.elim
theorem wSlc_inv {P : Prop} {a : Nat} {lo hi st : V} {hp : List O} {Q : QE} (h : wSlc (.ref a) lo hi st hp Q)
    (k1 : ∀ l h' x, st = .none → lo.bound = some l → hi.bound = some h' → hp[a]? = some (.nums x) → x.length ≤ SZ ∧ Q (.ref hp.length) (hp ++ [.nums (sliceOf x l h')]) → P)
    (k2 : ∀ l h' x, st = .none → lo.bound = some l → hi.bound = some h' → hp[a]? = some (.bytes x) → x.length ≤ SZ ∧ Q (.ref hp.length) (hp ++ [.bytes (sliceOf x l h')]) → P)
    (k3 : ∀ x, st = .int (-1) → lo.bound = some none → hi.bound = some none → hp[a]? = some (.nums x) → x.length ≤ SZ ∧ Q (.ref hp.length) (hp ++ [.nums x.reverse]) → P)
    (k4 : ∀ x, st = .int (-1) → lo.bound = some none → hi.bound = some none → hp[a]? = some (.bytes x) → x.length ≤ SZ ∧ Q (.ref hp.length) (hp ++ [.bytes x.reverse]) → P) : P := by
  have key : ∀ (b1 b2 : Option (Option Int)) (o : Option O), lo.bound = b1 → hi.bound = b2 → hp[a]? = o → (match (generalizing := false) st, b1, b2, o with
    | .none, some l, some h, some (.nums x) => x.length ≤ SZ ∧ Q (.ref hp.length) (hp ++ [.nums (sliceOf x l h)])
    | .none, some l, some h, some (.bytes x) => x.length ≤ SZ ∧ Q (.ref hp.length) (hp ++ [.bytes (sliceOf x l h)])
    | .int (-1), some Option.none, some Option.none, some (.nums x) => x.length ≤ SZ ∧ Q (.ref hp.length) (hp ++ [.nums x.reverse])
    | .int (-1), some Option.none, some Option.none, some (.bytes x) => x.length ≤ SZ ∧ Q (.ref hp.length) (hp ++ [.bytes x.reverse])
    | _, _, _, _ => False) → P := by
    clear h
    intro b1 b2 o e1 e2 e3 h
    rcases st with _ | _ | (i | (_ | i)) | _
    · rcases b1 with _ | l
      · exact h.elim
      · rcases b2 with _ | h'
        · exact h.elim
        · rcases o with _ | (x | x)
          · exact h.elim
          · exact k1 l h' x rfl e1 e2 e3 h
          · exact k2 l h' x rfl e1 e2 e3 h
    · exact h.elim
    · exact h.elim
    · rcases b1 with _ | (_ | l)
      · exact h.elim
      · rcases b2 with _ | (_ | h')
        · exact h.elim
        · rcases o with _ | (x | x)
          · exact h.elim
          · exact k3 x rfl e1 e2 e3 h
          · exact k4 x rfl e1 e2 e3 h
        · exact h.elim
      · exact h.elim
    · exact h.elim
    · exact h.elim
  exact key _ _ _ rfl rfl rfl h
theorem notIn_inv {P : Prop} {i : Int} {b : Nat} {hp : List O} {Q : QE} (h : wCmp .NotIn (.int i) (.ref b) hp Q) (k : ∀ l, hp[b]? = some (.nums l) → Q (.bool (decide (i ∉ l))) hp → P) : P := by
  have key : ∀ o, hp[b]? = o → (match (generalizing := false) CmpOp.NotIn, o with
    | .NotIn, some (.nums y) => Q (.bool (decide (i ∉ y))) hp
    | _, _ => False) → P := by
    clear h
    rintro (_ | (l | l)) e h
    · exact h.elim
    · exact k l e h
    · exact h.elim
  exact key _ rfl h
theorem cmpR_inv {P : Prop} {op : CmpOp} {a b : Nat} {hp : List O} {Q : QE} (h : wCmp op (.ref a) (.ref b) hp Q) (k1 : ∀ x y, op = .Eq → hp[a]? = some (.nums x) → hp[b]? = some (.nums y) → Q (.bool (decide (x = y))) hp → P)
    (k2 : ∀ x y, op = .NotEq → hp[a]? = some (.nums x) → hp[b]? = some (.nums y) → Q (.bool (decide (x ≠ y))) hp → P) : P := by
  have key : ∀ o o', hp[a]? = o → hp[b]? = o' → (match (generalizing := false) op, o, o' with
    | .Eq, some (.nums x), some (.nums y) => Q (.bool (decide (x = y))) hp
    | .NotEq, some (.nums x), some (.nums y) => Q (.bool (decide (x ≠ y))) hp
    | _, _, _ => False) → P := by
    clear h
    induction op with
    | Eq =>
      rintro (_ | (x | x)) (_ | (y | y)) e e' h
      all_goals first | exact h.elim | exact k1 _ _ rfl e e' h
    | NotEq =>
      rintro (_ | (x | x)) (_ | (y | y)) e e' h
      all_goals first | exact h.elim | exact k2 _ _ rfl e e' h
    | _ => exact fun _ _ _ _ h => h.elim
  exact key _ _ rfl rfl h
theorem addR_inv {P : Prop} {op : Operator} {a b : Nat} {hp : List O} {Q : QE} (h : wBin op (.ref a) (.ref b) hp Q) (k1 : ∀ x y, op = .Add → hp[a]? = some (.nums x) → hp[b]? = some (.nums y) → x.length + y.length ≤ SZ ∧ Q (.ref hp.length) (hp ++ [.nums (x ++ y)]) → P)
    (k2 : ∀ x y, op = .Add → hp[a]? = some (.bytes x) → hp[b]? = some (.bytes y) → x.length + y.length ≤ SZ ∧ Q (.ref hp.length) (hp ++ [.bytes (x ++ y)]) → P) : P := by
  have key : ∀ o o', hp[a]? = o → hp[b]? = o' → (match (generalizing := false) op, o, o' with
    | .Add, some (.nums x), some (.nums y) => x.length + y.length ≤ SZ ∧ Q (.ref hp.length) (hp ++ [.nums (x ++ y)])
    | .Add, some (.bytes x), some (.bytes y) => x.length + y.length ≤ SZ ∧ Q (.ref hp.length) (hp ++ [.bytes (x ++ y)])
    | _, _, _ => False) → P := by
    clear h
    induction op with
    | Add =>
      rintro (_ | (x | x)) (_ | (y | y)) e e' h
      all_goals first | exact h.elim | exact k1 _ _ rfl e e' h | exact k2 _ _ rfl e e' h
    | _ => exact fun _ _ _ _ h => h.elim
  exact key _ _ rfl rfl h
theorem mulR_inv {P : Prop} {op : Operator} {a : Nat} {j : Int} {hp : List O} {Q : QE} (h : wBin op (.ref a) (.int j) hp Q) (k : ∀ x, op = .Mult → hp[a]? = some (.nums [x]) → j ≤ SZ ∧ -(2 ^ 62) ≤ j ∧ Q (.ref hp.length) (hp ++ [.nums (List.replicate j.toNat x)]) → P) : P := by
  have key : ∀ o, hp[a]? = o → (match (generalizing := false) op, o with
    | .Mult, some (.nums [x]) => j ≤ SZ ∧ -(2 ^ 62) ≤ j ∧ Q (.ref hp.length) (hp ++ [.nums (List.replicate j.toNat x)])
    | _, _ => False) → P := by
    clear h
    induction op with
    | Mult =>
      rintro (_ | ((_ | ⟨x, _ | ⟨y, l⟩⟩) | x)) e h
      all_goals first | exact h.elim | exact k _ rfl e h
    | _ => exact fun _ _ h => h.elim
  exact key _ rfl h
noncomputable def wAugI (Gf : Fns) (gs : List V) (n : Nat) (loc : Loc) (op : Operator) (e : X) (u iv : V) (hp2 : List O) (Q : QS) : Prop := match u, iv with
    | .ref r, .int j => n ≤ r ∧ (match hp2[r]? with
      | some (.bytes l) => l.length ≤ SZ ∧ (match (pidx j l.length), (pidx j l.length).bind (l[·]?) with
        | some p, some x => wX Gf gs e loc hp2 fun v hp3 => match v with
          | .int y => op = .BitXor ∧ 0 ≤ y ∧ isByte ((x ^^^ y.toNat : Nat) : Int) ∧ hp3[r]? = some (.bytes l) ∧ Q .next ⟨loc, hp3.set r (.bytes (l.set p (x ^^^ y.toNat)))⟩
          | _ => False
        | _, _ => False)
      | _ => False)
    | _, _ => False
theorem s_augI {a i : X} {op : Operator} {e : X} : wS Gf gs n (.augI a i op e) ⟨loc, hp⟩ Q = wX Gf gs a loc hp fun u hp1 => wX Gf gs i loc hp1 fun iv hp2 => wAugI Gf gs n loc op e u iv hp2 Q := rfl
noncomputable def AugK (n : Nat) (loc : Loc) (r j : Nat) (l : List Nat) (x : Nat) (Q : QS) : QE := fun v hp3 => match v with
  | .int y => 0 ≤ y ∧ x ^^^ y.toNat < 256 ∧ hp3[r]? = some (.bytes l) ∧ Q .next ⟨loc, hp3.set r (.bytes (l.set j (x ^^^ y.toNat)))⟩
  | _ => False
theorem aug_intro {r j x : Nat} {l : List Nat} {e : X} (hr : n ≤ r) (h : hp[r]? = some (.bytes l)) (hx : l[j]? = some x) (hs : l.length ≤ SZ) (q : wX Gf gs e loc hp (AugK n loc r j l x Q)) : wAugI Gf gs n loc .BitXor e (.ref r) (.int (j : Int)) hp Q := by
  have hj := (List.getElem?_eq_some_iff.mp hx).1
  refine ⟨hr, ?_⟩
  rw [h]
  refine ⟨hs, ?_⟩
  rw [pidx_nat hj]
  show (match (some j), l[j]? with
        | some p, some x => wX Gf gs e loc hp fun v hp3 => match v with
          | .int y => Operator.BitXor = .BitXor ∧ 0 ≤ y ∧ isByte ((x ^^^ y.toNat : Nat) : Int) ∧ hp3[r]? = some (.bytes l) ∧ Q .next ⟨loc, hp3.set r (.bytes (l.set p (x ^^^ y.toNat)))⟩
          | _ => False
        | _, _ => False)
  rw [hx]
  have : (fun (v : V) (hp3 : List O) => match v with
          | .int y => Operator.BitXor = .BitXor ∧ 0 ≤ y ∧ isByte ((x ^^^ y.toNat : Nat) : Int) ∧ hp3[r]? = some (.bytes l) ∧ Q .next ⟨loc, hp3.set r (.bytes (l.set j (x ^^^ y.toNat)))⟩
          | _ => False) = AugK n loc r j l x Q := by
    funext v hp3
    induction v with
    | int y => exact propext ⟨fun ⟨_, a, b, c⟩ => ⟨a, Int.ofNat_lt.mp b.2, c⟩, fun ⟨a, b, c⟩ => ⟨rfl, a, ⟨Int.natCast_nonneg _, Int.ofNat_lt.mpr b⟩, c⟩⟩
    | _ => rfl
  exact (congrArg (wX Gf gs e loc hp) this).mpr q
noncomputable def wFor (Gf : Fns) (gs : List V) (n k : Nat) (body : SL) (loc : Loc) (u v : V) (hp2 : List O) (Q : QS) : Prop := match u, v with
    | .int a, .int b => a.natAbs ≤ SZ ∧ b.natAbs ≤ SZ ∧ ∃ I : Nat → St → Prop, I 0 ⟨loc, hp2⟩ ∧
        (∀ (i : Nat) st1, I i st1 → a + i < b → wSL Gf gs n body ⟨st1.loc.set k (.int (a + i)), st1.hp⟩ (Turn n (I (i + 1)))) ∧
        ∀ st1, I (b - a).toNat st1 → Q .next st1
    | _, _ => False
theorem s_forR {k : Nat} {two : Bool} {lo hi : X} {body : SL} : wS Gf gs n (.forR k two lo hi body) ⟨loc, hp⟩ Q = wX Gf gs lo loc hp fun u hp1 => wX Gf gs hi loc hp1 fun v hp2 => wFor Gf gs n k body loc u v hp2 Q := rfl
theorem for_zero {k m : Nat} {body : SL} (hm : m ≤ SZ) (I : Nat → St → Prop) (h0 : I 0 ⟨loc, hp⟩) (hs : ∀ (i : Nat) st1, I i st1 → i < m → wSL Gf gs n body ⟨st1.loc.set k (.int (i : Int)), st1.hp⟩ (Turn n (I (i + 1))))
    (hd : ∀ st1, I m st1 → Q .next st1) : wFor Gf gs n k body loc (.int 0) (.int (m : Int)) hp Q :=
  ⟨by decide, hm, I, h0, fun i st1 h hi => by rw [Int.zero_add] at hi ⊢; exact hs i st1 h (Int.ofNat_lt.mp hi), fun st1 h => hd st1 (by rw [Int.sub_zero] at h; exact h)⟩
theorem for_one {k m : Nat} {body : SL} (hm : m ≤ SZ) (I : Nat → St → Prop) (h0 : I 0 ⟨loc, hp⟩) (hs : ∀ (i : Nat) st1, I i st1 → i + 1 < m → wSL Gf gs n body ⟨st1.loc.set k (.int ((i + 1 : Nat) : Int)), st1.hp⟩ (Turn n (I (i + 1))))
    (hd : ∀ st1, I (m - 1) st1 → Q .next st1) : wFor Gf gs n k body loc (.int 1) (.int (m : Int)) hp Q :=
  ⟨by decide, hm, I, h0, fun i st1 h hi => by
    rw [Int.add_comm] at hi ⊢; exact hs i st1 h (Int.ofNat_lt.mp hi), fun st1 h => hd st1 (by rwa [show ((m : Int) - 1).toNat = m - 1 from Int.toNat_sub m 1] at h)⟩
theorem for_from {k a b : Nat} {body : SL} (ha : a ≤ SZ) (hb : b ≤ SZ) (I : Nat → St → Prop) (h0 : I 0 ⟨loc, hp⟩) (hs : ∀ (i : Nat) st1, I i st1 → a + i < b → wSL Gf gs n body ⟨st1.loc.set k (.int ((a + i : Nat) : Int)), st1.hp⟩ (Turn n (I (i + 1))))
    (hd : ∀ st1, I (b - a) st1 → Q .next st1) : wFor Gf gs n k body loc (.int (a : Int)) (.int (b : Int)) hp Q :=
  ⟨ha, hb, I, h0, fun i st1 h hi => hs i st1 h (Int.ofNat_lt.mp hi), fun st1 h => hd st1 (by rwa [Int.toNat_sub b a] at h)⟩
noncomputable def wForL (Gf : Fns) (gs : List V) (n0 k : Nat) (body : SL) (loc : Loc) (u : V) (hp1 : List O) (Q : QS) : Prop := match u with
    | .ref r => match hp1[r]? with
      | some (.nums xs) => xs.length ≤ SZ ∧ ∃ n1 ρ₀ st₀, n0 ≤ n1 ∧ View n0 ρ₀ ⟨loc, hp1⟩ st₀ ∧ n1 ≤ st₀.hp.length ∧ (∀ j, n1 ≤ j → ρ₀[j]? ≠ some r) ∧
          ∃ I : Nat → St → Prop, I 0 st₀ ∧
          (∀ (i : Nat) (x : Int) st1, I i st1 → xs[i]? = some x → wSL Gf gs n1 body ⟨st1.loc.set k (.int x), st1.hp⟩ (Turn n1 (I (i + 1)))) ∧
          ∀ st1, I xs.length st1 → Q .next st1
      | _ => False
    | _ => False
theorem s_forL {k : Nat} {e : X} {body : SL} : wS Gf gs n (.forL k e body) ⟨loc, hp⟩ Q = wX Gf gs e loc hp fun u hp1 => wForL Gf gs n k body loc u hp1 Q := rfl
noncomputable def wForE (Gf : Fns) (gs : List V) (n0 k1 k2 : Nat) (body : SL) (loc : Loc) (u : V) (hp1 : List O) (Q : QS) : Prop := match u with
    | .ref r => match hp1[r]? with
      | some (.nums xs) => xs.length ≤ SZ ∧ ∃ n1 ρ₀ st₀, n0 ≤ n1 ∧ View n0 ρ₀ ⟨loc, hp1⟩ st₀ ∧ n1 ≤ st₀.hp.length ∧ (∀ j, n1 ≤ j → ρ₀[j]? ≠ some r) ∧
          ∃ I : Nat → St → Prop, I 0 st₀ ∧
          (∀ (i : Nat) (x : Int) st1, I i st1 → xs[i]? = some x → wSL Gf gs n1 body ⟨(st1.loc.set k1 (.int i)).set k2 (.int x), st1.hp⟩ (Turn n1 (I (i + 1)))) ∧
          ∀ st1, I xs.length st1 → Q .next st1
      | _ => False
    | _ => False
theorem s_forE {k1 k2 : Nat} {e : X} {body : SL} : wS Gf gs n (.forE k1 k2 e body) ⟨loc, hp⟩ Q = wX Gf gs e loc hp fun u hp1 => wForE Gf gs n k1 k2 body loc u hp1 Q := rfl
noncomputable def wWhil (Gf : Fns) (gs : List V) (n0 : Nat) (c : X) (body : SL) (st : St) (Q : QS) : Prop := ∃ I : Nat → St → Prop, (∃ m, I m st) ∧
      (∀ m st1, I m st1 → wC Gf gs c st1.loc st1.hp fun b hp1 => match b with
        | true => wSL Gf gs n0 body ⟨st1.loc, hp1⟩ (TurnM n0 m I)
        | false => Q .next ⟨st1.loc, hp1⟩)
theorem s_whil {c : X} {body : SL} : wS Gf gs n (.whil c body) ⟨loc, hp⟩ Q = wWhil Gf gs n c body ⟨loc, hp⟩ Q := rfl
noncomputable def AppK (n0 : Nat) (loc : Loc) (r : Nat) (Q : QS) : QE := fun v hp2 => match v with
      | .int x => n0 ≤ r ∧ (match hp2[r]? with
        | some (.nums l) => l.length < SZ ∧ Q .next ⟨loc, hp2.set r (.nums (l ++ [x]))⟩
        | _ => False)
      | _ => False
noncomputable def wApp (Gf : Fns) (gs : List V) (n0 : Nat) (e : X) (loc : Loc) (u : V) (hp1 : List O) (Q : QS) : Prop := match u with
    | .ref r => (∃ l1, hp1[r]? = some (.nums l1)) ∧ wX Gf gs e loc hp1 (AppK n0 loc r Q)
    | _ => False
theorem s_app {a e : X} : wS Gf gs n (.app a e) ⟨loc, hp⟩ Q = wX Gf gs a loc hp fun u hp1 => wApp Gf gs n e loc u hp1 Q := rfl
theorem app_intro {r : Nat} {l1 : List Int} {e : X} (h : hp[r]? = some (.nums l1)) (q : wX Gf gs e loc hp (AppK n loc r Q)) : wApp Gf gs n e loc (.ref r) hp Q := ⟨⟨l1, h⟩, q⟩
theorem appK_int {r : Nat} {x : Int} {l : List Int} (hr : n ≤ r) (h : hp[r]? = some (.nums l)) (hs : l.length < SZ) (q : Q .next ⟨loc, hp.set r (.nums (l ++ [x]))⟩) : AppK n loc r Q (.int x) hp := by
  refine ⟨hr, ?_⟩
  rw [h]; exact ⟨hs, q⟩
noncomputable def wPop (n0 : Nat) (loc : Loc) (u : V) (hp1 : List O) (Q : QS) : Prop := match u with
    | .ref r => n0 ≤ r ∧ (match hp1[r]? with
      | some (.nums (_ :: l)) => l.length < SZ ∧ Q .next ⟨loc, hp1.set r (.nums l)⟩
      | _ => False)
    | _ => False
theorem s_pop0 {a : X} : wS Gf gs n (.pop0 a) ⟨loc, hp⟩ Q = wX Gf gs a loc hp fun u hp1 => wPop n loc u hp1 Q := rfl
noncomputable def UnpK (loc : Loc) (ks : List Nat) (Q : QS) : Res → List O → Prop := fun r hp3 => match r with
      | .many tup us => tup = true ∧ us.length = ks.length ∧ Q .next ⟨setAll loc ks us, hp3⟩
      | .one _ => False
noncomputable def callK (o : Option (CallForm × Spec)) (us : List V) (hp : List O) (R : Res → List O → Prop) : Prop := match o with
  | some f => f.2 us hp R
  | none => False
theorem callK_P {o : Option (CallForm × Spec)} {f : CallForm × Spec} {us : List V} {R : Res → List O → Prop} (h : o = some f) (q : f.2 us hp R) : callK o us hp R := by subst h; exact q
theorem s_unpack {ks : List Nat} {c : Nat} {pos kw : XL} : wS Gf gs n (.unpack ks c pos kw) ⟨loc, hp⟩ Q = wXL Gf gs pos loc hp fun vs hp1 => wXL Gf gs kw loc hp1 fun ws hp2 => callK Gf[c]? (vs ++ ws) hp2 (UnpK loc ks Q) := rfl
noncomputable def OneK (Q : QE) : Res → List O → Prop := fun r hp3 => match r with
      | .one v => Q v hp3
      | .many _ _ => False
theorem oneK {Q : QE} {v : V} : OneK Q (.one v) hp = Q v hp := rfl
theorem x_call {c : Nat} {pos kw : XL} {Q : QE} : wX Gf gs (.call c pos kw) loc hp Q = wXL Gf gs pos loc hp fun vs hp1 => wXL Gf gs kw loc hp1 fun ws hp2 => callK Gf[c]? (vs ++ ws) hp2 (OneK Q) := rfl
theorem wc_call {c : Nat} {pos kw : XL} {Q : Bool → List O → Prop} : wC Gf gs (.call c pos kw) loc hp Q = wXL Gf gs pos loc hp fun vs hp1 => wXL Gf gs kw loc hp1 fun ws hp2 => callK Gf[c]? (vs ++ ws) hp2 (OneK fun v hp3 => wTruth v hp3 Q) := rfl
end
section
variable {Gf : Fns} {gs : List V} {loc : Loc} {hp : List O} {Q : QE} {P : Bool → List O → Prop}
noncomputable def slotK (o : Option V) (hp : List O) (Q : QE) : Prop := match o with
  | some v => Q v hp
  | none => False
theorem x_slot {k : Nat} : wX Gf gs (.loc k) loc hp Q = slotK (loc k) hp Q := rfl
theorem slotK_P {o : Option V} {v : V} (h : o = some v) (q : Q v hp) : slotK o hp Q := by subst h; exact q
theorem slotK_inv {o : Option V} {hp : List O} {Q : QE} (h : slotK o hp Q) : ∃ v, o = some v ∧ Q v hp := by
  induction o with
  | none => exact h.elim
  | some v => exact ⟨v, rfl, h⟩
theorem x_loc {k : Nat} {v : V} (h : loc k = some v) : wX Gf gs (.loc k) loc hp Q = Q v hp := by rw [x_slot, h]; rfl
theorem x_gvK {g : Nat} : wX Gf gs (.gv g) loc hp Q = slotK gs[g]? hp Q := rfl
theorem x_gv {g : Nat} {v : V} (h : gs[g]? = some v) : wX Gf gs (.gv g) loc hp Q = Q v hp := by rw [x_gvK, h]; rfl
theorem x_int {i : Int} : wX Gf gs (.int i) loc hp Q = Q (.int i) hp := rfl
theorem x_none : wX Gf gs .none loc hp Q = Q .none hp := rfl
theorem x_bool {b : Bool} : wX Gf gs (.bool b) loc hp Q = Q (.bool b) hp := rfl
theorem x_bin {op : Operator} {a b : X} : wX Gf gs (.bin op a b) loc hp Q = wX Gf gs a loc hp fun u hp1 => wX Gf gs b loc hp1 fun v hp2 => wBin op u v hp2 Q := rfl
theorem x_cmp {op : CmpOp} {a b : X} : wX Gf gs (.cmp op a b) loc hp Q = wX Gf gs a loc hp fun u hp1 => wX Gf gs b loc hp1 fun v hp2 => wCmp op u v hp2 Q := rfl
theorem x_neg {a : X} : wX Gf gs (.neg a) loc hp Q = wX Gf gs a loc hp fun u hp1 => match u with
    | .int i => Q (.int (-i)) hp1
    | _ => False := rfl
theorem x_or {xs : XL} : wX Gf gs (.or xs) loc hp Q = wOr Gf gs xs loc hp Q := rfl
theorem x_ite {c a b : X} : wX Gf gs (.ite c a b) loc hp Q = wC Gf gs c loc hp fun t hp1 => match t with
    | true => wX Gf gs a loc hp1 Q
    | false => wX Gf gs b loc hp1 Q := rfl
theorem x_idx {a i : X} : wX Gf gs (.idx a i) loc hp Q = wX Gf gs a loc hp fun u hp1 => wX Gf gs i loc hp1 fun v hp2 => wIdx u v hp2 Q := rfl
theorem x_slc {a lo hi st : X} : wX Gf gs (.slc a lo hi st) loc hp Q = wX Gf gs a loc hp fun u hp1 => wX Gf gs lo loc hp1 fun v1 hp2 => wX Gf gs hi loc hp2 fun v2 hp3 => wX Gf gs st loc hp3 fun v3 hp4 => wSlc u v1 v2 v3 hp4 Q := rfl
noncomputable def ListK (Q : QE) : List V → List O → Prop := fun vs hp1 => match intsOf vs with
    | some is => is.length ≤ SZ ∧ Q (.ref hp1.length) (hp1 ++ [.nums is])
    | Option.none => False
theorem x_list {xs : XL} : wX Gf gs (.list xs) loc hp Q = wXL Gf gs xs loc hp (ListK Q) := rfl
theorem listK0 : ListK Q [] hp = (0 ≤ SZ ∧ Q (.ref hp.length) (hp ++ [.nums []])) := rfl
theorem listK1 {i : Int} : ListK Q [.int i] hp = (1 ≤ SZ ∧ Q (.ref hp.length) (hp ++ [.nums [i]])) := rfl
theorem listK2 {i j : Int} : ListK Q [.int i, .int j] hp = (2 ≤ SZ ∧ Q (.ref hp.length) (hp ++ [.nums [i, j]])) := rfl
theorem x_bi {b : BI} {xs : XL} : wX Gf gs (.bi b xs) loc hp Q = wXL Gf gs xs loc hp fun vs hp1 => wBI b vs hp1 Q := rfl
noncomputable def CompRK (Gf : Fns) (gs : List V) (k : Nat) (elt : X) (loc : Loc) (Q : QE) : QE := fun u hp1 => match u with
    | .int n => n.natAbs ≤ SZ ∧ ∃ f : Nat → Int, (∀ i : Nat, (i : Int) < n → wX Gf gs elt (loc.set k (.int i)) hp1 fun v hp2 => v = .int (f i) ∧ hp2 = hp1) ∧
        Q (.ref hp1.length) (hp1 ++ [.nums ((List.range n.toNat).map f)])
    | _ => False
theorem x_compR {k : Nat} {e elt : X} : wX Gf gs (.compR k e elt) loc hp Q = wX Gf gs e loc hp (CompRK Gf gs k elt loc Q) := rfl
noncomputable def Is (v : V) (hp : List O) : QE := fun w hp' => w = v ∧ hp' = hp
theorem compR_intro {k m : Nat} {elt : X} (f : Nat → Int) (hm : m ≤ SZ) (h : ∀ i, i < m → wX Gf gs elt (loc.set k (.int (i : Int))) hp (Is (.int (f i)) hp)) (q : Q (.ref hp.length) (hp ++ [.nums ((List.range m).map f)])) :
    CompRK Gf gs k elt loc Q (.int (m : Int)) hp :=
  ⟨hm, f, fun i hi => h i (Int.ofNat_lt.mp hi), q⟩
noncomputable def CompLK (Gf : Fns) (gs : List V) (k : Nat) (elt : X) (loc : Loc) (Q : QE) : QE := fun u hp1 => match u with
    | .ref a => match hp1[a]? with
      | some (.nums xs) => xs.length ≤ SZ ∧ ∃ f : Int → Int, (∀ x ∈ xs, wX Gf gs elt (loc.set k (.int x)) hp1 fun v hp2 => v = .int (f x) ∧ hp2 = hp1) ∧
        Q (.ref hp1.length) (hp1 ++ [.nums (xs.map f)])
      | _ => False
    | _ => False
theorem x_compL {k : Nat} {e elt : X} : wX Gf gs (.compL k e elt) loc hp Q = wX Gf gs e loc hp (CompLK Gf gs k elt loc Q) := rfl
theorem compL_intro {k a : Nat} {elt : X} {xs : List Int} (ha : hp[a]? = some (.nums xs)) (f : Int → Int) (hm : xs.length ≤ SZ) (h : ∀ x ∈ xs, wX Gf gs elt (loc.set k (.int x)) hp (Is (.int (f x)) hp)) (q : Q (.ref hp.length) (hp ++ [.nums (xs.map f)])) :
    CompLK Gf gs k elt loc Q (.ref a) hp := by
  show (match hp[a]? with
    | some (.nums xs) => _
    | _ => False)
  rw [ha]
  exact ⟨hm, f, h, q⟩
theorem xl_nil {R : List V → List O → Prop} : wXL Gf gs .nil loc hp R = R [] hp := rfl
theorem xl_cons {x : X} {xs : XL} {R : List V → List O → Prop} : wXL Gf gs (.cons x xs) loc hp R = wX Gf gs x loc hp fun v hp1 => wXL Gf gs xs loc hp1 fun vs hp2 => R (v :: vs) hp2 := rfl
theorem k_cmp {op : CmpOp} {a b : X} : wC Gf gs (.cmp op a b) loc hp P = wX Gf gs a loc hp fun u hp1 => wX Gf gs b loc hp1 fun v hp2 => wCmp op u v hp2 fun w hp3 => wTruth w hp3 P := rfl
theorem k_bin {op : Operator} {a b : X} : wC Gf gs (.bin op a b) loc hp P = wX Gf gs a loc hp fun u hp1 => wX Gf gs b loc hp1 fun v hp2 => wBin op u v hp2 fun w hp3 => wTruth w hp3 P := rfl
theorem k_not {a : X} : wC Gf gs (.not a) loc hp P = wC Gf gs a loc hp fun b hp1 => P (!b) hp1 := rfl
theorem k_or {xs : XL} : wC Gf gs (.or xs) loc hp P = wCO Gf gs xs loc hp P := rfl
theorem k_and {xs : XL} : wC Gf gs (.and xs) loc hp P = wCA Gf gs xs loc hp P := rfl
theorem ca_nil : wCA Gf gs .nil loc hp P = P true hp := rfl
theorem ca_cons {x : X} {xs : XL} : wCA Gf gs (.cons x xs) loc hp P = wC Gf gs x loc hp fun b hp1 => match b with
    | true => wCA Gf gs xs loc hp1 P
    | false => P false hp1 := rfl
theorem co_nil : wCO Gf gs .nil loc hp P = P false hp := rfl
theorem co_cons {x : X} {xs : XL} : wCO Gf gs (.cons x xs) loc hp P = wC Gf gs x loc hp fun b hp1 => match b with
    | true => P true hp1
    | false => wCO Gf gs xs loc hp1 P := rfl
end
end Mine
end
section
open PySem PyProof.Rows
namespace Mine
local macro_rules | `(tactic| omega) => `(tactic| first | assumption | lia | omega +splitDisjunctions)
noncomputable def Rep (φ : List Addr) : V → Value → Prop
  | .none, w => w = .none
  | .bool b, w => w = .bool b
  | .int i, w => ∃ t, w = .int i t
  | .ref n, w => ∃ a, φ[n]? = some a ∧ w = .ref a
noncomputable def bytesObj (b : Array UInt8) : Obj := { cls := .type "bytearray", data := .bytearray b }
noncomputable def nats (b : Array UInt8) : List Nat := b.toList.map (·.toNat)
noncomputable def ObjIs (h : Heap) (a : Addr) : O → Prop
  | .nums l => ∃ vs : List Value, h.PlainList a vs.toArray ∧ IntsAre vs l
  | .bytes l => ∃ b, h.get? a = some (bytesObj b) ∧ nats b = l
theorem obj_bytes {h : Heap} {a : Addr} {b : Array UInt8} {l : List Nat} (e : h.get? a = some (bytesObj b)) (r : nats b = l) : ObjIs h a (.bytes l) := ⟨b, e, r⟩
theorem obj_nums {h : Heap} {a : Addr} {vs : List Value} {l : List Int} (e : h.PlainList a vs.toArray) (r : IntsAre vs l) : ObjIs h a (.nums l) := ⟨vs, e, r⟩
structure HeapRep (φ : List Addr) (hp : List O) (h : Heap) : Prop where
  len : φ.length = hp.length
  nodup : φ.Nodup
  objs : ∀ (j : Nat) a o, φ[j]? = some a → hp[j]? = some o → ObjIs h a o
noncomputable abbrev Keep (h h' : Heap) : Prop := ∀ b o, h.get? b = some o → h'.get? b = some o
structure Ext (s s' : Shared) (φ φ' : List Addr) : Prop where
  keep : Keep s.heap s'.heap
  gens : s'.gens = s.gens
  os : s'.os = s.os
  drawn : s'.drawn = s.drawn
  pre : φ <+: φ'
  new : ∀ (j : Nat) a, φ.length ≤ j → φ'[j]? = some a → s.heap.get? a = none
theorem Ext.refl (s : Shared) (φ : List Addr) : Ext s s φ φ :=
  ⟨fun _ _ e => e, rfl, rfl, rfl, List.prefix_refl _, fun j a hj e => by rw [List.getElem?_eq_none hj] at e; cases e⟩
theorem Ext.same {s s' : Shared} {φ : List Addr} (h : s'.heap = s.heap) (g : s'.gens = s.gens) (o : s'.os = s.os) (d : s'.drawn = s.drawn := by rfl) : Ext s s' φ φ :=
  ⟨fun _ _ e => by rw [h]; exact e, g, o, d, List.prefix_refl _, fun j a hj e => by rw [List.getElem?_eq_none hj] at e; cases e⟩
theorem Ext.kept {s s' : Shared} {φ : List Addr} (h : Keep s.heap s'.heap) (g : s'.gens = s.gens) (o : s'.os = s.os) (d : s'.drawn = s.drawn := by rfl) : Ext s s' φ φ :=
  ⟨h, g, o, d, List.prefix_refl _, fun j a hj e => by rw [List.getElem?_eq_none hj] at e; cases e⟩
theorem Ext.trans {s s' s'' : Shared} {φ φ' φ'' : List Addr} (x : Ext s s' φ φ') (y : Ext s' s'' φ' φ'') : Ext s s'' φ φ'' :=
  ⟨fun b o e => y.keep b o (x.keep b o e), y.gens.trans x.gens, y.os.trans x.os, y.drawn.trans x.drawn, x.pre.trans y.pre, fun j a hj e => by
    by_cases hl : j < φ'.length
    · refine x.new j a hj ?_
      obtain ⟨t, rfl⟩ := y.pre
      rw [List.getElem?_append_left hl] at e
      exact e
    · have := y.new j a (Nat.not_lt.mp hl) e
      induction q : s.heap.get? a with
      | none => rfl
      | some o => rw [x.keep a o q] at this; cases this⟩
theorem pre_get {φ φ' : List Addr} (h : φ <+: φ') {j : Nat} {a : Addr} (e : φ[j]? = some a) : φ'[j]? = some a := by
  obtain ⟨t, rfl⟩ := h
  have hl : j < φ.length := by
    rcases Nat.lt_or_ge j φ.length with h | h
    · exact h
    · rw [List.getElem?_eq_none h] at e; cases e
  rw [List.getElem?_append_left hl]; exact e
theorem Rep.mono {φ φ' : List Addr} (h : φ <+: φ') {v : V} {w : Value} (r : Rep φ v w) : Rep φ' v w := by
  induction v with
  | ref n => obtain ⟨a, e, rfl⟩ := r; exact ⟨a, pre_get h e, rfl⟩
  | _ => exact r
theorem ObjIs.mono {h h' : Heap} (k : Keep h h') {a : Addr} {o : O} (x : ObjIs h a o) : ObjIs h' a o := by
  induction o with
  | nums l => obtain ⟨vs, p, i⟩ := x; exact ⟨vs, p.at fun o e => k a o e, i⟩
  | bytes l => obtain ⟨b, e, r⟩ := x; exact ⟨b, k _ _ e, r⟩
theorem ObjIs.there {h : Heap} {a : Addr} {o : O} (x : ObjIs h a o) : ∃ ob, h.get? a = some ob := by
  induction o with
  | nums l => obtain ⟨vs, ⟨n, e⟩, i⟩ := x; exact ⟨_, e⟩
  | bytes l => obtain ⟨b, e, r⟩ := x; exact ⟨_, e⟩
theorem HeapRep.mono {φ : List Addr} {hp : List O} {h h' : Heap} (x : HeapRep φ hp h) (k : Keep h h') : HeapRep φ hp h' :=
  ⟨x.len, x.nodup, fun j a o e q => (x.objs j a o e q).mono k⟩
theorem HeapRep.there {φ : List Addr} {hp : List O} {h : Heap} (x : HeapRep φ hp h) {a : Addr} (m : a ∈ φ) : ∃ ob, h.get? a = some ob := by
  obtain ⟨j, hj, rfl⟩ := List.getElem_of_mem m
  have hj' : j < hp.length := by rw [← x.len]; exact hj
  exact (x.objs j _ hp[j] (by simp) (by simp)).there
theorem HeapRep.snoc {φ : List Addr} {hp : List O} {h h' : Heap} (x : HeapRep φ hp h) (k : Keep h h') {a : Addr} (n : h.get? a = none) {o : O} (i : ObjIs h' a o) : HeapRep (φ ++ [a]) (hp ++ [o]) h' := by
  refine ⟨by simp [x.len], ?_, fun j b q e1 e2 => ?_⟩
  · rw [List.nodup_append]
    refine ⟨x.nodup, by simp, fun b hb c hc => ?_⟩
    rintro rfl
    obtain rfl : b = a := by simpa using hc
    obtain ⟨ob, e⟩ := x.there hb
    rw [n] at e; cases e
  · rcases Nat.lt_trichotomy j φ.length with hj | hj | hj
    · rw [List.getElem?_append_left hj] at e1
      rw [List.getElem?_append_left (by rw [← x.len]; exact hj)] at e2
      exact (x.objs j b q e1 e2).mono k
    · subst hj
      rw [List.getElem?_append_right (Nat.le_refl _)] at e1
      rw [List.getElem?_append_right (by rw [x.len]; exact Nat.le_refl _)] at e2
      simp only [Nat.sub_self, List.getElem?_cons_zero, Option.some.injEq] at e1
      rw [x.len] at e2
      simp only [Nat.sub_self, List.getElem?_cons_zero, Option.some.injEq] at e2
      subst e1 e2; exact i
    · rw [List.getElem?_eq_none (by simp; omega)] at e1; cases e1
theorem HeapRep.at {φ : List Addr} {hp : List O} {h : Heap} (x : HeapRep φ hp h) {n : Nat} {a : Addr} (e : φ[n]? = some a) {o : O} (q : hp[n]? = some o) : ObjIs h a o := x.objs n a o e q
inductive EPost (φ : List Addr) (s : Shared) (Q : QE) (w : Value) (s' : Shared) : Prop
  | mk (φ' : List Addr) (hp' : List O) (u : V) (x : Ext s s' φ φ') (h : HeapRep φ' hp' s'.heap) (r : Rep φ' u w) (q : Q u hp')
inductive BPost (φ : List Addr) (s : Shared) (Q : Bool → List O → Prop) (b : Bool) (s' : Shared) : Prop
  | mk (φ' : List Addr) (hp' : List O) (x : Ext s s' φ φ') (h : HeapRep φ' hp' s'.heap) (q : Q b hp')
noncomputable def No : Value → Shared → Prop := fun _ _ => False
theorem EPost.int {φ : List Addr} {s : Shared} {hp : List O} {Q : QE} (H : HeapRep φ hp s.heap) {i : Int} {t n : Nat} (q : Q (.int i) hp) : EPost φ s Q (.int i t) { s with toks := n } :=
  ⟨φ, hp, .int i, .same rfl rfl rfl, H, ⟨t, rfl⟩, q⟩
theorem EPost.int' {φ : List Addr} {s : Shared} {hp : List O} {Q : QE} (H : HeapRep φ hp s.heap) {i : Int} {t : Nat} (q : Q (.int i) hp) : EPost φ s Q (.int i t) s :=
  ⟨φ, hp, .int i, .refl _ _, H, ⟨t, rfl⟩, q⟩
theorem EPost.bool {φ : List Addr} {s : Shared} {hp : List O} {Q : QE} (H : HeapRep φ hp s.heap) {b : Bool} (q : Q (.bool b) hp) : EPost φ s Q (.bool b) s :=
  ⟨φ, hp, .bool b, .refl _ _, H, rfl, q⟩
theorem EPost.kept {φ : List Addr} {s s' : Shared} {hp : List O} {Q : QE} (H : HeapRep φ hp s.heap) (k : Keep s.heap s'.heap) (g : s'.gens = s.gens) (o : s'.os = s.os) {i : Int} {t : Nat} (q : Q (.int i) hp) (d : s'.drawn = s.drawn := by rfl) : EPost φ s Q (.int i t) s' :=
  ⟨φ, hp, .int i, .kept k g o d, H.mono k, ⟨t, rfl⟩, q⟩
theorem EPost.made {φ : List Addr} {s s' : Shared} {hp : List O} {Q : QE} (H : HeapRep φ hp s.heap) {a : Addr} {o : O} (k : Keep s.heap s'.heap) (g : s'.gens = s.gens) (os : s'.os = s.os) (n : s.heap.get? a = none) (i : ObjIs s'.heap a o)
    (q : Q (.ref hp.length) (hp ++ [o])) (d : s'.drawn = s.drawn := by rfl) : EPost φ s Q (.ref a) s' :=
  ⟨φ ++ [a], hp ++ [o], .ref hp.length, ⟨k, g, os, d, List.prefix_append _ _, fun j b hj e => by
      rcases Nat.lt_or_ge φ.length j with h | h
      · rw [List.getElem?_eq_none (by simp; omega)] at e; cases e
      · obtain rfl : j = φ.length := Nat.le_antisymm h hj
        simp at e; subst e; exact n⟩, H.snoc k n i, ⟨a, by rw [← H.len]; simp, rfl⟩, q⟩
theorem fresh_size (h : Heap) : h.get? h.objs.size = none := by
  induction e : h.get? h.objs.size with
  | none => rfl
  | some o => exact absurd (Heap.lt_size e) (Nat.lt_irrefl _)
theorem EPost.push {φ : List Addr} {s : Shared} {hp : List O} {Q : QE} (H : HeapRep φ hp s.heap) {ob : Obj} {n : Nat} {o : O} (i : ObjIs (s.heap.push ob) s.heap.objs.size o)
    (q : Q (.ref hp.length) (hp ++ [o])) : EPost φ s Q (.ref s.heap.objs.size) { s with heap := s.heap.push ob, toks := n } :=
  .made H (fun _ _ e => Heap.get?_push_of_some _ e) rfl rfl (fresh_size _) i q
end Mine
end
section
open PySem PyProof.Rows
open Sem (wp)
namespace Mine
local macro_rules | `(tactic| omega) => `(tactic| first | assumption | lia | omega +splitDisjunctions)
noncomputable def holderIds : List String := "bytearray.__contains__" :: "bytearray.__mod__" :: "bytearray.__rmod__" :: "_struct.pack_into.held" :: "bytearray.find.held" :: Builtin.Bytes.decodersThatHold
noncomputable def cleanCode : Code → Bool
  | .builtin id _ => !holderIds.contains id
  | _ => true
noncomputable def ClB (k : Bool) (Γ : Ctx) : Prop := k = true → ∀ x ∈ Γ.below, cleanCode x.1 = true
noncomputable def Cl (k : Bool) (Γ : Ctx) : Prop := k = true → cleanCode Γ.code = true ∧ ∀ x ∈ Γ.below, cleanCode x.1 = true
noncomputable def wpK (k : Bool) {α : Type} (M : Model) (A : Around) (t : Sem α) (Q : α → Shared → Prop) (s : Shared) : Prop :=
  ∀ Γ p, Γ.In A → Cl k Γ → wp M Γ t (fun a _ s' => Q a s') (fun _ _ _ => False) p s
noncomputable def codeK (k : Bool) (M : Model) (A : Around) (c : Code) (R : Flow → Shared → Prop) (s : Shared) : Prop :=
  ∀ Γ p, Γ.code = c → Γ.Below A → ClB k Γ → wpCode M Γ (fun r s' => ∃ f, r = .ok f ∧ R f s') p s
section
variable {k : Bool} {α β : Type} {M : Model} {A : Around} {s : Shared}
theorem wpK.of_any {t : Sem α} {Q : α → Shared → Prop} (h : wpAny M A t Q No s) : wpK k M A t Q s := fun Γ p hΓ _ => h Γ p hΓ
theorem wpK.any {t : Sem α} {Q : α → Shared → Prop} {E : Value → Shared → Prop} (h : wpK false M A t Q s) : wpAny M A t Q E s :=
  fun Γ p hΓ => Sem.wp_mono M Γ t (fun _ _ _ x => x) (fun _ _ _ x => x.elim) p s (h Γ p hΓ fun x => nomatch x)
theorem wpK.weak {t : Sem α} {Q : α → Shared → Prop} (h : wpK false M A t Q s) : wpK k M A t Q s := fun Γ p hΓ _ => h Γ p hΓ fun x => nomatch x
theorem wpK.mono {t : Sem α} {Q Q' : α → Shared → Prop} (h : wpK k M A t Q s) (hQ : ∀ a s, Q a s → Q' a s) : wpK k M A t Q' s :=
  fun Γ p hΓ hc => Sem.wp_mono M Γ t (fun a _ s => hQ a s) (fun _ _ _ x => x) p s (h Γ p hΓ hc)
theorem wpK.pure {a : α} {Q : α → Shared → Prop} (h : Q a s) : wpK k M A (Pure.pure a) Q s := fun _ _ _ _ => h
theorem wpK.bind {m : Sem α} {f : α → Sem β} {Q : β → Shared → Prop} (h : wpK k M A m (fun a s' => wpK k M A (f a) Q s') s) : wpK k M A (m >>= f) Q s := fun Γ p hΓ hc => by
  rw [Sem.wp_bind']
  exact Sem.wp_mono M Γ m (fun a p' s' h' => h' Γ p' hΓ hc) (fun _ _ _ h' => h') p s (h Γ p hΓ hc)
theorem wpK.holding {vs : List Value} {m : Sem α} {Q : α → Shared → Prop} (h : wpK k M A m Q s) : wpK k M A (PySem.holding vs m) Q s :=
  fun Γ p hΓ hc => by rw [Sem.wp_holding]; exact h Γ p hΓ hc
theorem wpK.keep {vs : List Value} {m : Sem α} {Q : α → Shared → Prop} (h : wpK k M A m Q s) : wpK k M A (m.keep vs) Q s :=
  fun Γ p hΓ hc => by rw [Sem.wp_keep]; exact h Γ p hΓ hc
theorem wpK.operate {vs : List Value} {m : Sem Value} {Q : Value → Shared → Prop} (h : wpK k M A m Q s) : wpK k M A (PySem.operate vs m) Q s :=
  fun Γ p hΓ hc => by rw [Sem.wp_operate]; exact h Γ p hΓ hc
theorem wpK.standAt {pos : Pos} {Q : Unit → Shared → Prop} (h : Q () s) : wpK k M A (PySem.standAt pos) Q s := fun _ _ _ _ => h
theorem wpK.point {Q : Unit → Shared → Prop} (h : Q () s) : wpK k M A PySem.point Q s := fun _ _ _ _ => h
theorem wpK.rule {t : String} {Q : Unit → Shared → Prop} (h : Q () s) : wpK k M A (PySem.rule t) Q s := fun _ _ _ _ => h
theorem wpK.onRaise {m : Sem α} {r : Value → Sem Unit} {Q : α → Shared → Prop} (h : wpK k M A m Q s) : wpK k M A (m.onRaise r) Q s := fun Γ p hΓ hc => by
  rw [Sem.wp_onRaise]
  exact Sem.wp_mono M Γ m (fun _ _ _ x => x) (fun _ _ _ x => x.elim) p s (h Γ p hΓ hc)
theorem wpK.attempt {m : Sem α} {Q : Except Value α → Shared → Prop} (h : wpK k M A m (fun a s' => Q (.ok a) s') s) : wpK k M A m.attempt Q s := fun Γ p hΓ hc => by
  rw [Sem.wp_attempt]
  exact Sem.wp_mono M Γ m (fun _ _ _ x => x) (fun _ _ _ x => x.elim) p s (h Γ p hΓ hc)
theorem Cl.enter {Γ : Ctx} (h : Cl k Γ) (c : Code) (hd : Option Value) (p : Pos) : ClB k (Γ.enter c hd p) := fun hk x hx => by
  have hx : x ∈ (Γ.code, p) :: Γ.below := hx
  rcases List.mem_cons.mp hx with rfl | hx
  · exact (h hk).1
  · exact (h hk).2 x hx
theorem wpK.run {c : Code} {h : Option Value} {Q : Flow → Shared → Prop} (hc : codeK k M (A.mark h) c Q s) (hnb : h ≠ some byPass := by intro x; cases x) :
    wpK k M A (PySem.run c h) Q s := fun Γ p hΓ hcl => by
  rw [Sem.wp_run]
  refine wpCode_mono (fun r s' hr => ?_) (hc _ p rfl (hΓ.enter c h p hnb) (hcl.enter c h p))
  obtain ⟨f, rfl, q⟩ := hr; exact q
theorem wpK.runValue {c : Code} {Q : Value → Shared → Prop} (hc : codeK k M A c (fun f s' => ∃ v, f = .ret v ∧ Q v s') s) : wpK k M A (PySem.runValue c) Q s := fun Γ p hΓ hcl => by
  rw [Sem.wp_runValue]
  refine wpCode_mono (fun r s' hr => ?_) (hc _ p rfl (hΓ.enter c none p (by intro x; cases x)) (hcl.enter c none p))
  obtain ⟨f, rfl, v, rfl, q⟩ := hr; exact q
theorem wpK.call {f : Value} {pos : List Value} {kw : List (Str × Value)} {Q : Value → Shared → Prop} (hc : codeK k M A (.call f ⟨pos, kw⟩) (fun f s' => ∃ v, f = .ret v ∧ Q v s') s) :
    wpK k M A (PySem.call f pos kw) Q s := wpK.runValue hc
theorem codeK.mono {c : Code} {R R' : Flow → Shared → Prop} (h : codeK k M A c R s) (hR : ∀ r s, R r s → R' r s) : codeK k M A c R' s :=
  fun Γ p hc hΓ hb => wpCode_mono (fun r s' hr => by obtain ⟨f, e, q⟩ := hr; exact ⟨f, e, hR _ _ q⟩) (h Γ p hc hΓ hb)
theorem codeK.of_any {c : Code} {R : Flow → Shared → Prop} (h : codeAny M A c (fun r s' => ∃ f, r = .ok f ∧ R f s') s) : codeK k M A c R s := fun Γ p hc hΓ _ => h Γ p hc hΓ
theorem codeK.any {c : Code} {R : Flow → Shared → Prop} (h : codeK false M A c R s) : codeAny M A c (fun r s' => ∃ f, r = .ok f ∧ R f s') s := fun Γ p hc hΓ => h Γ p hc hΓ fun x => nomatch x
theorem codeK.of_tree {c : Code} {R : Flow → Shared → Prop} (hcl : cleanCode c = true)
    (h : wpK k M (A.under c) (M.den c) (fun fin s' => match fin with | .done f => R f s' | .again c' => c'.quiet = true ∧ codeK k M A c' R s') s) : codeK k M A c R s := fun Γ p hc hΓ hb => by
  rw [wpCode_iff_wp, hc]
  refine Sem.wp_mono M Γ _ (fun fin p' s' h' => ?_) (fun _ _ _ h' => h'.elim) p s (h Γ p (hc ▸ hΓ.in) fun hk => ⟨by rw [hc]; exact hcl, hb hk⟩)
  induction fin with
  | done f => exact ⟨f, rfl, h'⟩
  | again c' => exact ⟨h'.1, h'.2 (Γ.goto c') p' rfl (hΓ.goto c') hb⟩
theorem codeK.loop {c : Code} {R : Flow → Shared → Prop} (hcl : cleanCode c = true) (hq : c.quiet = true) (I : Nat → Shared → Prop)
    (turn : ∀ n s, I n s → wpK k M (A.under c) (M.den c)
      (fun fin s' => match fin with
        | .done f => R f s'
        | .again c' => (c' = c ∧ ∃ m, m < n ∧ I m s') ∨ (c'.quiet = true ∧ codeK k M A c' R s')) s)
    (n : Nat) (h : I n s) : codeK k M A c R s := by
  induction n using Nat.strongRecOn generalizing s with
  | ind n ih =>
    refine codeK.of_tree hcl ((turn n s h).mono fun fin s' hf => ?_)
    induction fin with
    | done f => exact hf
    | again c' =>
      rcases hf with ⟨rfl, m, hm, hI⟩ | hf
      · exact ⟨hq, ih m hm hI⟩
      · exact hf
end
theorem mark_none (A : Around) : A.mark none = A := rfl
section
variable {k : Bool} {prog : Program} {w : World} {A : Around} {s : Shared} {env : Env}
theorem clean_builtin {id : String} {args : Args} (h : holderIds.contains id = false) : cleanCode (.builtin id args) = true := by
  show (!holderIds.contains id) = true
  rw [h]; rfl
theorem codeK.builtin {id : String} {args : Args} {b : Builtin} {R : Flow → Shared → Prop} (hcl : holderIds.contains id = false) (hb : entryFor table id = some b)
    (h : wpK k (model prog w) (A.under (.builtin id args)) (b args) (fun fin s' => match fin with | .done f => R f s' | .again c' => c'.quiet = true ∧ codeK k (model prog w) A c' R s') s) :
    codeK k (model prog w) A (.builtin id args) R s := by
  refine codeK.of_tree (clean_builtin hcl) ?_
  show wpK k _ _ (match entryFor table id with | some b => b args | none => unsupported ((withoutEnding? id "#data").getD id)) _ s
  rw [hb]; exact h
theorem codeK.call_builtin {id : String} {args : Args} {b : Builtin} {R : Flow → Shared → Prop} (hcl : holderIds.contains id = false) (hq : plainId id = true) (hb : entryFor table id = some b)
    (h : wpK k (model prog w) A.in1 (checkBuiltinCall id args) (fun _ s₁ => wpK k (model prog w) A.in1 (b args) (fun fin s' => match fin with | .done f => R f s' | .again c' => c'.quiet = true ∧ codeK k (model prog w) A c' R s') s₁) s) :
    codeK k (model prog w) A (.call (.builtin id) args) R s := by
  refine codeK.of_tree rfl ?_
  show wpK k _ A.in1 (do checkBuiltinCall id args; again (.builtin id args)) _ s
  refine wpK.bind (h.mono fun _ s₁ h₁ => wpK.pure ⟨plainId_quiet hq args, codeK.builtin hcl hb ?_⟩)
  rw [Around.under_plainId hq args]; exact h₁
theorem wpK.execs_nil {Q : Flow → Shared → Prop} (h : Q .next s) : wpK k (model prog w) A (execs [] env) Q s := fun _ _ _ _ => h
theorem wpK.execs_cons {st : Stmt} {rest : List Stmt} {Q : Flow → Shared → Prop}
    (h : wpK k (model prog w) A (exec st env) (fun f s' => match f with | .next => wpK k (model prog w) A (execs rest env) Q s' | f => Q f s') s) : wpK k (model prog w) A (execs (st :: rest) env) Q s := by
  rw [PySem.execs_cons]
  refine wpK.bind (h.mono fun f s' h' => ?_)
  cases f <;> first | exact h' | exact wpK.pure h'
theorem wpK.BinOp {l r : Expr} {op : Operator} {pos : Pos} {Q : Value → Shared → Prop}
    (h : wpK k (model prog w) A (eval l env) (fun a s₁ => wpK k (model prog w) A (eval r env) (fun b s₂ => wpK k (model prog w) A (binaryOp op a b) Q s₂) s₁) s) :
    wpK k (model prog w) A (eval (.BinOp l op r pos) env) Q s := by
  rw [eval_BinOp]
  exact wpK.bind (h.mono fun a s₁ h₁ => wpK.bind (wpK.holding (h₁.mono fun b s₂ h₂ => wpK.bind (wpK.standAt (wpK.operate h₂)))))
theorem wpK.Return {e : Expr} {pos : Pos} {Q : Flow → Shared → Prop} (h : wpK k (model prog w) A (eval e env) (fun v => Q (.ret v)) s) : wpK k (model prog w) A (exec (.Return (some e) pos) env) Q s := by
  rw [exec_Return_some]
  exact wpK.bind (wpK.standAt (wpK.bind (h.mono fun v s' h' => wpK.pure h')))
theorem wpK.If {test : Expr} {body orelse : List Stmt} {pos : Pos} {Q : Flow → Shared → Prop}
    (h : wpK k (model prog w) A (isTrue test env (eval test env)) (fun b s₂ => if b then wpK k (model prog w) A (execs body env) Q s₂ else wpK k (model prog w) A (execs orelse env) Q s₂) s) :
    wpK k (model prog w) A (exec (.If test body orelse pos) env) Q s := by
  rw [exec_If]
  refine wpK.bind (wpK.standAt (wpK.bind (h.mono fun b s₂ h₂ => ?_)))
  cases b <;> exact h₂
theorem wpK.AssignName {x : Str} {pos' pos : Pos} {value : Expr} {Q : Flow → Shared → Prop}
    (h : wpK k (model prog w) A (eval value env) (fun v s₁ => wpK k (model prog w) A (storeName env x v) (fun _ => Q .next) s₁) s)
    (hs : swapsWith value (some (.Name x pos')) pos.line env = Pure.pure false) : wpK k (model prog w) A (exec (.Assign [.Name x pos'] value pos) env) Q s := by
  intro Γ p hΓ hc
  simp only [exec_Assign_Name env x pos' value pos hs, Sem.wp_bind', Sem.wp_cmd_standAt, Sem.wp_bindName, Sem.wp_pure']
  exact Sem.wp_mono _ Γ _ (fun v _ s₁ h₁ => h₁ Γ _ hΓ hc) (fun _ _ _ h' => h') _ _ (h Γ _ hΓ hc)
theorem wpK.spliced_nil {Q : List Value → Shared → Prop} (h : Q [] s) : wpK k (model prog w) A (spliced []) Q s := wpK.pure h
theorem wpK.spliced_cons {x : Sem Value} {rest : List (Bool × Sem Value)} {Q : List Value → Shared → Prop}
    (h : wpK k (model prog w) A x (fun v s₁ => wpK k (model prog w) A (spliced rest) (fun vs s₂ => Q (v :: vs) s₂) s₁) s) : wpK k (model prog w) A (spliced ((false, x) :: rest)) Q s := by
  rw [spliced]
  refine wpK.bind (h.mono fun v s₁ h₁ => ?_)
  simp only [Bool.false_eq_true, if_false]
  exact wpK.bind (wpK.pure (wpK.bind (wpK.holding (h₁.mono fun vs s₂ h₂ => wpK.pure h₂))))
theorem wpK.evalAll_nil {Q : List Value → Shared → Prop} (h : Q [] s) : wpK k (model prog w) A (evalAll []) Q s := wpK.pure h
theorem wpK.evalAll_cons {x : Sem Value} {rest : List (Sem Value)} {Q : List Value → Shared → Prop}
    (h : wpK k (model prog w) A x (fun v s₁ => wpK k (model prog w) A (evalAll rest) (fun vs s₂ => Q (v :: vs) s₂) s₁) s) : wpK k (model prog w) A (evalAll (x :: rest)) Q s := by
  rw [evalAll]
  exact wpK.bind (h.mono fun v s₁ h₁ => wpK.bind (wpK.holding (h₁.mono fun vs s₂ h₂ => wpK.pure h₂)))
theorem wpK.evalArgs {f : Value} {args : List (Bool × Sem Value)} {keywords : List (Option Str × Sem Value)} {Q : Args → Shared → Prop}
    (hst : args.all (fun x => !x.1) = true) (hall : keywords.all (·.1.isSome) = true)
    (h : wpK k (model prog w) A (spliced args) (fun vs s₁ => wpK k (model prog w) A (evalAll (keywords.map (·.2))) (fun ks s₂ => Q ⟨vs, (keywords.filterMap (·.1)).zip ks⟩ s₂) s₁) s) :
    wpK k (model prog w) A (PySem.evalArgs f true args keywords) Q s := by
  unfold PySem.evalArgs
  induction args with
  | nil =>
    show wpK k (model prog w) A (spliced [] >>= _) Q s
    refine wpK.bind (h.mono fun vs s₁ h₁ => ?_)
    refine wpK.bind (wpK.pure (wpK.holding ?_))
    simp only [hall, if_true]
    refine wpK.bind (h₁.mono fun ks s₂ h₂ => ?_)
    exact wpK.bind (wpK.pure (wpK.pure h₂))
  | cons x r =>
    obtain ⟨b, x⟩ := x
    have hb : b = false := by simpa using (List.all_eq_true.mp hst (b, x) (.head _))
    subst hb
    show wpK k (model prog w) A (spliced ((false, x) :: r) >>= _) Q s
    refine wpK.bind (h.mono fun vs s₁ h₁ => ?_)
    refine wpK.bind (wpK.pure (wpK.holding ?_))
    simp only [hall, if_true]
    refine wpK.bind (h₁.mono fun ks s₂ h₂ => ?_)
    exact wpK.bind (wpK.pure (wpK.pure h₂))
theorem wpK.callWith_fn {pos : Pos} {a : Addr} {args : List (Bool × Sem Value)} {keywords : List (Option Str × Sem Value)} {Q : Value → Shared → Prop}
    (hst : args.all (fun x => !x.1) = true) (hall : keywords.all (·.1.isSome) = true) (hn : args.length + 2 * keywords.length ≤ 30)
    (h : wpK k (model prog w) A (spliced args) (fun vs s₁ => wpK k (model prog w) A (evalAll (keywords.map (·.2))) (fun ks s₂ =>
      (∃ o fd, s₂.heap.get? a = some o ∧ o.data = .func fd) ∧ wpK k (model prog w) A (PySem.call (.ref a) vs ((keywords.filterMap (·.1)).zip ks)) Q s₂) s₁) s) :
    wpK k (model prog w) A (callWith pos (.ref a) [] args keywords) Q s := by
  unfold callWith
  refine wpK.bind (wpK.holding (wpK.evalArgs hst hall (h.mono fun vs s₁ h₁ => h₁.mono fun ks s₂ h₂ => wpK.bind (wpK.standAt ?_))))
  obtain ⟨⟨o, fd, ho, hd⟩, h₂⟩ := h₂
  have h1 : args.any (·.1) = false := by
    rw [List.any_eq_false]; intro x hx
    have := List.all_eq_true.mp hst x hx
    simpa using this
  have h2 : keywords.any (·.1.isNone) = false := by
    rw [List.any_eq_false]; intro x hx
    have := List.all_eq_true.mp hall x hx
    cases hx : x.1 <;> simp_all
  simp only [h1, h2, Bool.or_false, List.nil_append]
  refine wpK.bind (m := keeperOf (.ref a)) (wpK.of_any ?_)
  unfold keeperOf
  refine wpAny_bind (wpAny_load ho ?_)
  rw [hd]
  refine wpAny_pure ?_
  rw [if_neg (by omega)]
  refine wpK.bind ?_
  unfold callMarked
  exact wpK.keep (h₂.mono fun r s₃ h₃ => wpK.bind (wpK.holding (wpK.point (wpK.pure h₃))))
theorem wpK.callWith_bi {pos : Pos} {f : Value} {args : List (Bool × Sem Value)} {Q : Value → Shared → Prop} (hf : ∀ a, f ≠ .ref a)
    (hst : args.all (fun x => !x.1) = true)
    (h : wpK k (model prog w) A (spliced args) (fun vs s₁ => wpK k (model prog w) A (PySem.call f vs []) Q s₁) s) :
    wpK k (model prog w) A (callWith pos f [] args []) Q s := by
  unfold callWith
  refine wpK.bind (wpK.holding (wpK.evalArgs hst rfl (h.mono fun vs s₁ h₁ => wpK.evalAll_nil (wpK.bind (wpK.standAt ?_)))))
  have h1 : args.any (·.1) = false := by
    rw [List.any_eq_false]; intro x hx
    have := List.all_eq_true.mp hst x hx
    simpa using this
  simp only [h1, List.any_nil, Bool.or_false, List.nil_append]
  have hk : keeperOf f = Pure.pure .machine := by
    unfold keeperOf
    cases f <;> first | rfl | exact absurd rfl (hf _)
  rw [hk]
  refine wpK.bind (wpK.pure ?_)
  refine wpK.bind ?_
  exact h₁.mono fun r s₃ h₃ => wpK.bind (wpK.holding (wpK.point (wpK.pure h₃)))
end
end Mine
end
section
open PySem PyProof.Rows
open Sem (wp)
set_option maxRecDepth 100000
namespace Mine
theorem ba_mro : mroOf (.type "bytearray") = pure [.type "bytearray", .type "object"] := by rw [mroOf_type]; kernel_rfl
theorem ba_lookup_new : typeLookup (.type "bytearray") "__new__" = pure (some (.builtin "bytearray.__new__")) := by rw [typeLookup_type, builtinLookup_eq_fast]; kernel_rfl
theorem ba_slot_init : Slot "bytearray" "__init__" "bytearray.__init__" :=
  .of (owner := "bytearray") (n := "__init__") (by rw [typeLookup_type, builtinLookup_eq_fast]; kernel_rfl) (by decide +kernel) (by decide +kernel) (by decide +kernel)
    (by first | exact .inl (by decide +kernel) | exact .inr (by decide +kernel)) (by rw [isSubtype_type]; kernel_rfl)
theorem ba_slot_getitem : Slot "bytearray" "__getitem__" "bytearray.__getitem__" :=
  .of (owner := "bytearray") (n := "__getitem__") (by rw [typeLookup_type, builtinLookup_eq_fast]; kernel_rfl) (by decide +kernel) (by decide +kernel) (by decide +kernel)
    (by first | exact .inl (by decide +kernel) | exact .inr (by decide +kernel)) (by rw [isSubtype_type]; kernel_rfl)
theorem ba_slot_setitem : Slot "bytearray" "__setitem__" "bytearray.__setitem__" :=
  .of (owner := "bytearray") (n := "__setitem__") (by rw [typeLookup_type, builtinLookup_eq_fast]; kernel_rfl) (by decide +kernel) (by decide +kernel) (by decide +kernel)
    (by first | exact .inl (by decide +kernel) | exact .inr (by decide +kernel)) (by rw [isSubtype_type]; kernel_rfl)
theorem ba_slot_len : Slot "bytearray" "__len__" "bytearray.__len__" :=
  .of (owner := "bytearray") (n := "__len__") (by rw [typeLookup_type, builtinLookup_eq_fast]; kernel_rfl) (by decide +kernel) (by decide +kernel) (by decide +kernel)
    (by first | exact .inl (by decide +kernel) | exact .inr (by decide +kernel)) (by rw [isSubtype_type]; kernel_rfl)
theorem ba_slot_add : Slot "bytearray" (dunder "add") "bytearray.__add__" :=
  .of (owner := "bytearray") (n := "__add__") (by rw [typeLookup_type, builtinLookup_eq_fast]; kernel_rfl) (by decide +kernel) (by decide +kernel) (by decide +kernel)
    (by first | exact .inl (by decide +kernel) | exact .inr (by decide +kernel)) (by rw [isSubtype_type]; kernel_rfl)
theorem ba_slot_iter : Slot "bytearray" "__iter__" "bytearray.__iter__" :=
  .of (owner := "bytearray") (n := "__iter__") (by rw [typeLookup_type, builtinLookup_eq_fast]; kernel_rfl) (by decide +kernel) (by decide +kernel) (by decide +kernel)
    (by first | exact .inl (by decide +kernel) | exact .inr (by decide +kernel)) (by rw [isSubtype_type]; kernel_rfl)
theorem ba_called : TypeCalled "bytearray" "bytearray.__new__" "bytearray.__init__" :=
  ⟨by decide +kernel, by decide +kernel, ⟨_, _, ba_mro⟩, madeBy_type ba_mro ba_lookup_new (by decide +kernel), by decide +kernel, by rw [isSubtype_type]; kernel_rfl, ba_slot_init⟩
theorem ba_typeCall (a : Value) : checkTypeCall "bytearray" ⟨[a], []⟩ = pure () := by kernel_rfl
theorem ba_newCall (a : Value) : checkBuiltinCall "bytearray.__new__" ⟨[.type "bytearray", a], []⟩ = pure () := by kernel_rfl
theorem ba_entry_new : entryFor table "bytearray.__new__" = some Builtin.«list.__new__» :=
  entryFor_alias (id' := "list.__new__") (by rw [fastTable_eq_tree]; kernel_rfl) (by decide +kernel) (by decide +kernel) (by rw [fastTable_eq_tree]; kernel_rfl)
theorem ba_entry_init : entryFor table "bytearray.__init__" = some Builtin.«bytearray.__init__» := entryFor_of_tree (by kernel_rfl)
theorem ba_entry_getitem : entryFor table "bytearray.__getitem__" = some Builtin.«bytearray.__getitem__» := entryFor_of_tree (by kernel_rfl)
theorem ba_entry_setitem : entryFor table "bytearray.__setitem__" = some Builtin.«bytearray.__setitem__» := entryFor_of_tree (by kernel_rfl)
theorem ba_entry_len : entryFor table "bytearray.__len__" = some Builtin.«bytearray.__len__» := entryFor_of_tree (by kernel_rfl)
theorem ba_entry_add : entryFor table "bytearray.__add__" = some Builtin.«bytearray.__add__» := entryFor_of_tree (by kernel_rfl)
theorem ba_entry_iter : entryFor table "bytearray.__iter__" = some Builtin.«bytearray.__iter__» := entryFor_of_tree (by kernel_rfl)
theorem ba_plain_new : plainId "bytearray.__new__" = true := by decide +kernel
theorem ba_sub : isSubtype (.type "bytearray") (.type "bytearray") = pure true := by rw [isSubtype_type]; kernel_rfl
theorem ba_args_init (a b : Value) : argsOk "bytearray.__init__" ⟨[a, b], []⟩ := by unfold argsOk; kernel_rfl
theorem ba_args_getitem (a b : Value) : argsOk "bytearray.__getitem__" ⟨[a, b], []⟩ := by unfold argsOk; kernel_rfl
theorem ba_args_setitem (a b c : Value) : argsOk "bytearray.__setitem__" ⟨[a, b, c], []⟩ := by unfold argsOk; kernel_rfl
theorem ba_args_len (a : Value) : argsOk "bytearray.__len__" ⟨[a], []⟩ := by unfold argsOk; kernel_rfl
theorem ba_args_add (a b : Value) : argsOk "bytearray.__add__" ⟨[a, b], []⟩ := by unfold argsOk; kernel_rfl
theorem ba_args_iter (a : Value) : argsOk "bytearray.__iter__" ⟨[a], []⟩ := by unfold argsOk; kernel_rfl
theorem ba_owner : ("bytearray.__new__".splitOn ".__new__").headD "" = "bytearray" := by rw [PySem.W.split_bytearray]; rfl
section
variable {prog : Program} {w : World} {A : Around} {E : Value → Shared → Prop} {s : Shared}
theorem ba_code_new (a : Value) {Q₁ : Value → Shared → Prop}
    (h : Q₁ (.ref s.heap.objs.size) { s with heap := s.heap.push (bytesObj #[]) }) :
    codeAny (model prog w) A (.call (.builtin "bytearray.__new__") ⟨[.type "bytearray", a], []⟩) (wants Q₁ E) s := by
  refine codeAny_of_tree ?_
  show wpAny _ A.in1 (do checkBuiltinCall "bytearray.__new__" ⟨[.type "bytearray", a], []⟩; again (.builtin "bytearray.__new__" ⟨[.type "bytearray", a], []⟩)) _ _ s
  refine wpAny_bind (wpAny_of_eq (ba_newCall a) (wpAny_pure ⟨plainId_quiet ba_plain_new _, codeAny_builtin_stack ba_entry_new rfl fun p st => ?_⟩))
  rw [Around.under_plainId ba_plain_new _]
  have hsub := ba_sub
  have hown := ba_owner
  obtain ⟨hp, g, d, tk, os⟩ := s
  simp only [hown]
  wp_walk
  exact h
end
theorem exported_false {M : Model} {A : Around} {s : Shared} {self : Value} {Q : Bool → Shared → Prop} (h : Q false s) : wpK true M A (Builtin.Bytes.exported self) Q s := fun Γ p hΓ hc => by
  obtain ⟨h1, h2⟩ := hc rfl
  show Q (((Γ.code, p) :: Γ.below).any _) s
  rw [show ((Γ.code, p) :: Γ.below).any _ = false from ?_]
  · exact h
  · have h3 : ∀ x ∈ (Γ.code, p) :: Γ.below, cleanCode x.1 = true := List.forall_mem_cons.mpr ⟨h1, h2⟩
    clear h h1 h2 hc hΓ
    refine List.any_eq_false.mpr fun x hx => ?_
    replace h3 := h3 x hx
    clear hx
    obtain ⟨c, q⟩ := x
    induction c with
    | builtin id as =>
      have hn : ∀ x, holderIds.contains x = true → id ≠ x := fun x hx e => by subst e; exact Bool.noConfusion (hx.symm.trans (Bool.not_eq_true' _ ▸ h3))
      have hd : Builtin.Bytes.decodersThatHold.contains id = false := Bool.eq_false_iff.mpr fun e => hn id (List.contains_iff_mem.mpr (List.mem_append_right _ (List.contains_iff_mem.mp e) : id ∈ (["bytearray.__contains__", "bytearray.__mod__", "bytearray.__rmod__", "_struct.pack_into.held", "bytearray.find.held"] ++ Builtin.Bytes.decodersThatHold))) rfl
      obtain ⟨pos, kw⟩ := as
      delta Builtin.Bytes.exported.match_1
      dsimp only
      show ¬ (dite _ _ _ = true)
      rw [dif_neg (hn "bytearray.__contains__" (by decide +kernel)), dif_neg (hn "bytearray.__mod__" (by decide +kernel)), dif_neg (hn "bytearray.__rmod__" (by decide +kernel)), dif_neg (hn "_struct.pack_into.held" (by decide +kernel)), dif_neg (hn "bytearray.find.held" (by decide +kernel))]
      induction pos with
      | nil => exact Bool.false_ne_true
      | cons v vs => 
        show ¬ ((_ && _) = true)
        rw [hd, Bool.and_false]; exact Bool.false_ne_true
    | _ => exact Bool.false_ne_true
theorem ba_bind (v : Value) : Builtin.Bytes.bindOptional "bytearray.__init__" "bytearray" ["source", "encoding", "errors"] [v] [] = pure [some v, none, none] := by kernel_rfl
theorem ba_lookup_release : typeLookup (.type "bytearray") "__release_buffer__" = pure (some (.builtin "bytearray.__release_buffer__")) := by rw [typeLookup_type, builtinLookup_eq_fast]; kernel_rfl
theorem ba_lookup_buffer : typeLookup (.type "bytearray") "__buffer__" = pure (some (.builtin "bytearray.__buffer__")) := by rw [typeLookup_type, builtinLookup_eq_fast]; kernel_rfl
theorem ba_lookup_index : typeLookup (.type "bytearray") "__index__" = pure none := by rw [typeLookup_type, builtinLookup_eq_fast]; kernel_rfl
theorem li_lookup_buffer : typeLookup (.type "list") "__buffer__" = pure none := by rw [typeLookup_type, builtinLookup_eq_fast]; kernel_rfl
theorem li_lookup_index : typeLookup (.type "list") "__index__" = pure none := by rw [typeLookup_type, builtinLookup_eq_fast]; kernel_rfl
theorem ba_ends_release : ("bytearray.__release_buffer__".endsWith ("." ++ "__release_buffer__")) = true := by decide +kernel
theorem ba_drop_release : ("bytearray.__release_buffer__".dropRight ("__release_buffer__".length + 1)) = "bytearray" := by decide +kernel
theorem ba_ends_buffer : ("bytearray.__buffer__".endsWith ("." ++ "__buffer__")) = true := by decide +kernel
theorem ba_drop_buffer : ("bytearray.__buffer__".dropRight ("__buffer__".length + 1)) = "bytearray" := by decide +kernel
section
variable {M : Model} {A : Around} {E : Value → Shared → Prop} {s : Shared} {a : Addr} {b : Array UInt8}
theorem ba_typeIs (hl : s.heap.get? a = some (bytesObj b)) : s.TypeIs (.ref a) "bytearray" := ⟨_, hl, rfl⟩
theorem ba_ownRelease {Q : Bool → Shared → Prop} (hl : s.heap.get? a = some (bytesObj b)) (h : Q false s) : wpAny M A (Builtin.Bytes.ownRelease (.ref a)) Q E s := by
  unfold Builtin.Bytes.ownRelease
  refine wpAny_bind ?_
  unfold Builtin.Bytes.slotIsOwn
  refine wpAny_bind (wpAny_specialOf (ba_typeIs hl) ba_lookup_release ?_)
  show wpAny M A (if (!("bytearray.__release_buffer__".endsWith ("." ++ "__release_buffer__"))) = true then _ else isInstance (Value.ref a) (Value.type ("bytearray.__release_buffer__".dropRight ("__release_buffer__".length + 1)))) _ _ _
  rw [ba_ends_release, ba_drop_release]
  exact wpAny_isInstance (ba_typeIs hl) ba_sub (wpAny_pure h)
theorem ba_ownBuffer {Q : Bool → Shared → Prop} (hl : s.heap.get? a = some (bytesObj b)) (h : Q true s) : wpAny M A (Builtin.Bytes.slotIsOwn (.ref a) "__buffer__") Q E s := by
  unfold Builtin.Bytes.slotIsOwn
  refine wpAny_bind (wpAny_specialOf (ba_typeIs hl) ba_lookup_buffer ?_)
  show wpAny M A (if (!("bytearray.__buffer__".endsWith ("." ++ "__buffer__"))) = true then _ else isInstance (Value.ref a) (Value.type ("bytearray.__buffer__".dropRight ("__buffer__".length + 1)))) _ _ _
  rw [ba_ends_buffer, ba_drop_buffer]
  exact wpAny_isInstance (ba_typeIs hl) ba_sub h
theorem ba_payload {Q : Array UInt8 → Shared → Prop} (hl : s.heap.get? a = some (bytesObj b)) (h : Q b s) : wpAny M A (Builtin.Bytes.payload (.ref a)) Q E s := by
  unfold Builtin.Bytes.payload Builtin.Bytes.payload?
  exact wpAny_bind (wpAny_bind (wpAny_load hl (wpAny_pure (wpAny_pure h))))
theorem ba_buffer {Q : Option (Array UInt8) → Shared → Prop} {id : String} {full : Bool} (hl : s.heap.get? a = some (bytesObj b)) (h : Q (some b) s) : wpAny M A (Builtin.Bytes.buffer? id (.ref a) full) Q E s := by
  unfold Builtin.Bytes.buffer?
  refine wpAny_bind (wpAny_specialOf (ba_typeIs hl) ba_lookup_buffer ?_)
  refine wpAny_bind (ba_ownBuffer hl ?_)
  refine wpAny_bind (wpAny_specialOf (ba_typeIs hl) ba_lookup_buffer ?_)
  refine wpAny_bind (ba_ownRelease hl ?_)
  exact wpAny_bind (ba_payload hl (wpAny_pure h))
theorem li_buffer {Q : Option (Array UInt8) → Shared → Prop} {id : String} {full : Bool} {its : Array Value} (hl : s.heap.IsList a its) (h : Q none s) : wpAny M A (Builtin.Bytes.buffer? id (.ref a) full) Q E s := by
  unfold Builtin.Bytes.buffer?
  refine wpAny_bind (wpAny_specialOf hl.typeIs li_lookup_buffer ?_)
  exact wpAny_bind (wpAny_specialOf hl.typeIs li_lookup_buffer (wpAny_pure h))
theorem ba_write {Q : Unit → Shared → Prop} {f : Array UInt8 → Array UInt8} (hl : s.heap.get? a = some (bytesObj b)) (hz : (f b).size ≤ sizeLine)
    (h : ∀ h', h'.get? a = some (bytesObj (f b)) → Heap.SameBut a s.heap h' → Q () { s with heap := h' }) : wpAny M A (Builtin.Bytes.write (.ref a) f) Q E s := by
  unfold Builtin.Bytes.write updateBytearray
  refine wpAny_bind (wpAny_load hl ?_)
  refine wpAny_bind (wpAny_update hl ?_)
  have e : (s.heap.update a (Obj.mapBytearray f)).get? a = some (bytesObj (f b)) := Heap.get?_update_self _ hl rfl
  refine wpAny_lookBehind e ?_ (h _ e (Heap.SameBut.update ..))
  show (if (f b).size > sizeLine then _ else _) = none
  rw [if_neg (Nat.not_lt.mpr hz)]
end
end Mine
end
section
open PySem PyProof.Rows
open Sem (wp)
open AutoSeq1 (wpAny_loadPart')
set_option maxRecDepth 100000
namespace Mine
local macro_rules | `(tactic| omega) => `(tactic| first | assumption | lia | omega +splitDisjunctions)
theorem ba_entry_typecall : entryFor table "type.__call__" = some Builtin.«type.__call__» := F.entry_type_call
section
variable {prog : Program} {w : World} {A : Around} {s : Shared} {a : Addr}
theorem ba_init_int {n : Int} {t : Tok} {Q : PySem.Fin → Shared → Prop} (h0 : 0 ≤ n) (h1 : n ≤ 4096) (hl : s.heap.get? a = some (bytesObj #[]))
    (h : ∀ h', h'.get? a = some (bytesObj (Array.replicate n.toNat 0)) → Heap.SameBut a s.heap h' → Q (.done (.ret .none)) { s with heap := h' }) :
    wpK true (model prog w) A (Builtin.«bytearray.__init__» ⟨[.ref a, .int n t], []⟩) Q s := by
  unfold Builtin.«bytearray.__init__»
  refine wpK.bind (wpK.of_any (ba_ownRelease hl ?_))
  refine wpK.bind (wpK.of_any (wpAny_of_eq (ba_bind _) ?_))
  refine wpK.bind (wpK.pure ?_)
  refine wpK.bind (wpK.pure ?_)
  refine wpK.bind (wpK.bind (m := Builtin.Bytes.exported (.ref a)) (exported_false ?_))
  refine wpK.bind (m := Builtin.Bytes.exportsOf (.ref a)) (wpK.of_any ?_)
  unfold Builtin.Bytes.exportsOf
  refine wpAny_bind (wpAny_load hl (wpAny_pure (wpK.pure ?_)))
  refine wpK.of_any ?_
  refine wpAny_bind (ba_write hl (by decide) fun h' e' s' => ?_)
  have f1 := AutoSeq1.idx_int
  have hf : Builtin.Bytes.fitsIndex n = true := by simp [Builtin.Bytes.fitsIndex]; omega
  have h2 : (n == 2 ^ 63 - 1) = false := by simp; omega
  have h3 : Builtin.Bytes.tooLong n.toNat = false := by simp [Builtin.Bytes.tooLong, sizeLine]; omega
  obtain ⟨hp, g, d, tk, os⟩ := s
  wp_walk
  rw [if_neg (by rw [h2]; decide)]
  show wpAny _ _ (if Builtin.Bytes.tooLong n.toNat = true then _ else _) _ _ _
  rw [if_neg (by rw [h3]; decide)]
  refine wpAny_bind (wpAny_rule ?_)
  by_cases hn : n > 0
  · rw [if_pos hn]
    refine wpAny_bind (ba_write (f := fun _ => Array.replicate n.toNat 0) e' (by simp [sizeLine]; omega) fun h'' e'' s'' => wpAny_pure ?_)
    exact h h'' e'' (s'.trans s'')
  · rw [if_neg hn]
    refine wpAny_pure (h h' ?_ s')
    have : n = 0 := by omega
    subst this
    exact e'
theorem ba_init_bytes {c : Addr} {b : Array UInt8} {Q : PySem.Fin → Shared → Prop} (hsz : b.size ≤ sizeLine) (hne : c ≠ a) (hl : s.heap.get? a = some (bytesObj #[])) (hc : s.heap.get? c = some (bytesObj b))
    (h : ∀ h', h'.get? a = some (bytesObj b) → Heap.SameBut a s.heap h' → Q (.done (.ret .none)) { s with heap := h' }) :
    wpK true (model prog w) A (Builtin.«bytearray.__init__» ⟨[.ref a, .ref c], []⟩) Q s := by
  unfold Builtin.«bytearray.__init__»
  refine wpK.bind (wpK.of_any (ba_ownRelease hl ?_))
  refine wpK.bind (wpK.of_any (wpAny_of_eq (ba_bind _) ?_))
  refine wpK.bind (wpK.pure ?_)
  refine wpK.bind (wpK.pure ?_)
  refine wpK.bind (wpK.bind (m := Builtin.Bytes.exported (.ref a)) (exported_false ?_))
  refine wpK.bind (m := Builtin.Bytes.exportsOf (.ref a)) (wpK.of_any ?_)
  unfold Builtin.Bytes.exportsOf
  refine wpAny_bind (wpAny_load hl (wpAny_pure (wpK.pure ?_)))
  refine wpK.of_any ?_
  refine wpAny_bind (ba_write hl (by decide) fun h' e' s' => ?_)
  have hc' : h'.get? c = some (bytesObj b) := (s'.2 c hne).trans hc
  refine wpAny_bind (m := asStr? (.ref c)) (wpAny_bind (wpAny_load hc' (wpAny_pure ?_)))
  refine wpAny_bind (wpAny_pure ?_)
  refine wpAny_bind (wpAny_specialOf (ba_typeIs hc') ba_lookup_index ?_)
  refine wpAny_bind (ba_buffer hc' ?_)
  refine wpAny_bind (wpAny_rule (wpAny_bind (ba_write (f := fun _ => b) e' hsz fun h'' e'' s'' => wpAny_pure ?_)))
  exact h h'' e'' (s'.trans s'')
theorem good_ints : ∀ {vs : List Value} {l : List Int}, IntsAre vs l → (∀ x ∈ l, isByte x) → vs.takeWhile (fun | .int i _ => 0 ≤ i && i < 256 | _ => false) = vs
  | _, _, .nil, _ => rfl
  | _, _, .cons n t r, h => by
    have hn := h n (.head _)
    rw [List.takeWhile_cons_of_pos (by simp; exact hn), good_ints r fun x hx => h x (.tail _ hx)]
theorem nats_ints : ∀ {vs : List Value} {l : List Int}, IntsAre vs l → (∀ x ∈ l, isByte x) → nats (vs.filterMap fun | .int i _ => some i.toNat.toUInt8 | _ => none).toArray = l.map Int.toNat
  | _, _, .nil, _ => rfl
  | _, _, .cons n t r, h => by
    have hn := h n (.head _)
    have ih := nats_ints r fun x hx => h x (.tail _ hx)
    simp only [nats, List.map_cons, List.filterMap_cons] at ih ⊢
    rw [ih]
    congr 1
    have : n.toNat < 256 := by obtain ⟨h1, h2⟩ := hn; omega
    simp [Nat.toUInt8, UInt8.toNat_ofNat_of_lt' this]
theorem ba_init_list {c : Addr} {vs : List Value} {l : List Int} {Q : PySem.Fin → Shared → Prop} (hsz : l.length ≤ sizeLine) (hb : ∀ x ∈ l, isByte x) (hne : c ≠ a) (hl : s.heap.get? a = some (bytesObj #[])) (hc : s.heap.PlainList c vs.toArray) (hi : IntsAre vs l)
    (h : ∀ h' b, h'.get? a = some (bytesObj b) → nats b = l.map Int.toNat → Heap.SameBut a s.heap h' → Q (.done (.ret .none)) { s with heap := h' }) :
    wpK true (model prog w) A (Builtin.«bytearray.__init__» ⟨[.ref a, .ref c], []⟩) Q s := by
  unfold Builtin.«bytearray.__init__»
  refine wpK.bind (wpK.of_any (ba_ownRelease hl ?_))
  refine wpK.bind (wpK.of_any (wpAny_of_eq (ba_bind _) ?_))
  refine wpK.bind (wpK.pure ?_)
  refine wpK.bind (wpK.pure ?_)
  refine wpK.bind (wpK.bind (m := Builtin.Bytes.exported (.ref a)) (exported_false ?_))
  refine wpK.bind (m := Builtin.Bytes.exportsOf (.ref a)) (wpK.of_any ?_)
  unfold Builtin.Bytes.exportsOf
  refine wpAny_bind (wpAny_load hl (wpAny_pure (wpK.pure ?_)))
  refine wpK.of_any ?_
  refine wpAny_bind (ba_write hl (by decide) fun h' e' s' => ?_)
  obtain ⟨n, hc⟩ := hc
  have hc' : h'.get? c = some { cls := .type "list", data := .seq vs.toArray n } := (s'.2 c hne).trans hc
  have hL : h'.IsList c vs.toArray := ⟨_, hc', rfl, n, rfl⟩
  refine wpAny_bind (m := asStr? (.ref c)) (wpAny_bind (wpAny_load hc' (wpAny_pure ?_)))
  refine wpAny_bind (wpAny_pure ?_)
  refine wpAny_bind (wpAny_specialOf hL.typeIs li_lookup_index ?_)
  refine wpAny_bind (li_buffer hL ?_)
  refine wpAny_bind (wpAny_typeOf hL.typeIs ?_)
  refine wpAny_bind (wpAny_seqItems hc' rfl ?_)
  have hn : ∀ k, k = vs.length → vs.toArray[k]? = none := by rintro k rfl; simp
  have key : ∀ (f : Value → Bool) (g : Value → Option UInt8), vs.takeWhile f = vs → nats (vs.filterMap g).toArray = l.map Int.toNat → ((List.filterMap g (List.takeWhile f vs.toArray.toList)).toArray.size ≤ sizeLine) ∧ nats (List.filterMap g (List.takeWhile f vs.toArray.toList)).toArray = l.map Int.toNat := by
    intro f g e1 e2
    have e3 : List.takeWhile f vs.toArray.toList = vs := e1
    rw [e3]
    refine ⟨?_, e2⟩
    rw [List.size_toArray]
    exact Nat.le_trans (List.length_filterMap_le _ _) (by rw [hi.length]; exact hsz)
  have K := key _ _ (good_ints hi hb) (nats_ints hi hb)
  dsimp only
  split
  · refine wpAny_bind (wpAny_rule (wpAny_bind (ba_write (f := fun _ => _) e' K.1 fun h'' e'' s'' => wpAny_pure ?_)))
    exact h h'' _ e'' K.2 (s'.trans s'')
  · rename_i heq
    cases heq.symm.trans (hn _ (congrArg List.length (good_ints hi hb)))
  · rename_i heq
    cases heq.symm.trans (hn _ (congrArg List.length (good_ints hi hb)))
theorem ba_call {v : Value} {Q : Value → Shared → Prop}
    (h : ∀ A', wpK true (model prog w) A' (Builtin.«bytearray.__init__» ⟨[.ref s.heap.objs.size, v], []⟩) (fun fin s' => fin = .done (.ret .none) ∧ Q (.ref s.heap.objs.size) s') { s with heap := s.heap.push (bytesObj #[]) }) :
    wpK true (model prog w) A (call (.type "bytearray") [v]) Q s := by
  refine wpK.call (codeK.of_tree rfl (wpK.pure ⟨Code.quiet_builtin _ (by decide +kernel), codeK.builtin (by decide +kernel) ba_entry_typecall ?_⟩))
  unfold Builtin.«type.__call__»
  have h1 := ba_called.notType
  have h2 := ba_called.canCreate
  dsimp only
  rw [if_neg (by rw [h1]; decide)]
  rw [if_neg (by rw [h2]; decide)]
  refine wpK.bind (wpK.of_any (wpAny_of_eq (ba_typeCall v) ?_))
  refine wpK.bind (wpK.of_any (wpAny_of_eq ba_mro ?_))
  refine wpK.bind (wpK.of_any (wpAny_of_eq ba_called.made ?_))
  refine wpK.bind (wpK.pure ?_)
  refine wpK.bind (wpK.holding (wpK.call (codeK.of_any (codeAny_mono (ba_code_new (E := No) (Q₁ := fun r s' => r = .ref s.heap.objs.size ∧ s' = { s with heap := s.heap.push (bytesObj #[]) }) v ⟨rfl, rfl⟩) ?_))))
  intro r s₁ hr
  induction r with
  | error e => exact hr.elim
  | ok fl =>
    induction fl with
    | ret obj =>
      obtain ⟨rfl, rfl⟩ := hr
      refine ⟨_, rfl, _, rfl, ?_⟩
      have hT : ({ s with heap := s.heap.push (bytesObj #[]) } : Shared).TypeIs (.ref s.heap.objs.size) "bytearray" := ⟨_, Heap.get?_push_size _ rfl, rfl⟩
      refine wpK.bind (wpK.of_any (wpAny_isInstance hT ba_sub ?_))
      refine wpK.bind (wpK.holding ?_)
      unfold callSpecial?
      refine wpK.bind (wpK.of_any (wpAny_specialOf hT ba_slot_init.lookup ?_))
      dsimp only
      refine wpK.holding ?_
      rw [ba_slot_init.bind]
      refine wpK.bind (wpK.pure (wpK.bind ?_))
      refine wpK.call (codeK.call_builtin (by decide +kernel) ba_slot_init.plain ba_entry_init ?_)
      refine wpK.of_any (ba_slot_init.check _ _ _ _ _ _ _ _ hT (ba_args_init _ _) ?_)
      refine (h _).mono fun fin s' hf => ?_
      obtain ⟨rfl, hq⟩ := hf
      exact ⟨_, rfl, wpK.pure (wpK.pure ⟨_, rfl, hq⟩)⟩
    | _ => exact hr.elim
theorem nats_replicate (n : Nat) : nats (Array.replicate n 0) = List.replicate n 0 := by simp [nats]
variable {φ : List Addr} {hp : List O} {Q : QE}
theorem made_keep {h h' : Heap} {o : Obj} (hs : Heap.SameBut h.objs.size (h.push o) h') : Keep h h' := fun b ob e => by
  rw [hs.2 b (Nat.ne_of_lt (Heap.lt_size e))]; exact Heap.get?_push_of_some _ e
theorem mk_int (H : HeapRep φ hp s.heap) {n : Int} {t : Tok} (h0 : 0 ≤ n) (h1 : n ≤ SZ) (q : Q (.ref hp.length) (hp ++ [.bytes (List.replicate n.toNat 0)])) :
    wpK true (model prog w) A (call (.type "bytearray") [.int n t]) (EPost φ s Q) s := by
  refine ba_call fun A' => ba_init_int h0 h1 (Heap.get?_push_size _ rfl) fun h' e hs => ⟨rfl, ?_⟩
  exact EPost.made H (made_keep hs) rfl rfl (fresh_size _) (obj_bytes e (nats_replicate _)) q
theorem mk_bytes (H : HeapRep φ hp s.heap) {c : Addr} {l : List Nat} (x : ObjIs s.heap c (.bytes l)) (h1 : l.length ≤ SZ) (q : Q (.ref hp.length) (hp ++ [.bytes l])) :
    wpK true (model prog w) A (call (.type "bytearray") [.ref c]) (EPost φ s Q) s := by
  refine bc fun no => ?_
  obtain ⟨b, e, rfl⟩ := x
  refine no ?_
  have hz : b.size ≤ sizeLine := by
    have : (nats b).length = b.size := by simp [nats]
    rw [this] at h1; unfold SZ at h1; unfold sizeLine; omega
  refine ba_call fun A' => ba_init_bytes hz (Nat.ne_of_lt (Heap.lt_size e)) (Heap.get?_push_size _ rfl) (Heap.get?_push_of_some _ e) fun h' e hs => ⟨rfl, ?_⟩
  exact EPost.made H (made_keep hs) rfl rfl (fresh_size _) (obj_bytes e rfl) q
theorem mk_list (H : HeapRep φ hp s.heap) {c : Addr} {l : List Int} (x : ObjIs s.heap c (.nums l)) (h1 : l.length ≤ SZ) (hb : ∀ x ∈ l, isByte x) (q : Q (.ref hp.length) (hp ++ [.bytes (l.map Int.toNat)])) :
    wpK true (model prog w) A (call (.type "bytearray") [.ref c]) (EPost φ s Q) s := by
  obtain ⟨vs, ⟨n, e⟩, hi⟩ := x
  have hz : l.length ≤ sizeLine := by unfold SZ at h1; unfold sizeLine; omega
  refine ba_call fun A' => ba_init_list hz hb (Nat.ne_of_lt (Heap.lt_size e)) (Heap.get?_push_size _ rfl) ⟨n, Heap.get?_push_of_some _ e⟩ hi fun h' b e hn hs => ⟨rfl, ?_⟩
  exact EPost.made H (made_keep hs) rfl rfl (fresh_size _) (obj_bytes e hn) q
end
end Mine
end
section
open PySem PyProof.Rows
open Sem (wp)
open AutoSeq1 (wpAny_loadPart')
set_option maxRecDepth 100000
namespace Mine
local macro_rules | `(tactic| omega) => `(tactic| first | assumption | lia | omega +splitDisjunctions)
theorem xor_and_nat (x : Nat) : ∀ y : Nat, (x ^^^ y) + 2 * (x &&& y) = x + y := by
  induction x using Nat.strongRecOn with
  | ind x ih =>
    intro y
    by_cases hx : x = 0
    · subst hx; simp
    · have h1 := ih (x / 2) (by omega) (y / 2)
      have h2 : (x ^^^ y) / 2 = x / 2 ^^^ y / 2 := Nat.xor_div_two
      have h3 : (x &&& y) / 2 = x / 2 &&& y / 2 := Nat.and_div_two
      have h4 : (x ^^^ y) % 2 = (x + y) % 2 := by
        have := @Nat.xor_mod_two_pow x y 1
        simp only [Nat.pow_one] at this
        rw [this]
        rcases Nat.mod_two_eq_zero_or_one x with a | a <;> rcases Nat.mod_two_eq_zero_or_one y with b | b <;> rw [a, b] <;> (try rw [Nat.add_mod, a, b]) <;> rfl
      have h5 : (x &&& y) % 2 = (x % 2) * (y % 2) := by
        have := @Nat.and_mod_two_pow x y 1
        simp only [Nat.pow_one] at this
        rw [this]
        rcases Nat.mod_two_eq_zero_or_one x with a | a <;> rcases Nat.mod_two_eq_zero_or_one y with b | b <;> rw [a, b] <;> rfl
      rcases Nat.mod_two_eq_zero_or_one x with a | a <;> rcases Nat.mod_two_eq_zero_or_one y with b | b <;> rw [a, b] at h5 <;> omega
theorem bitXor_nat {x y : Int} (hx : 0 ≤ x) (hy : 0 ≤ y) : Builtin.bitXor x y = ((x.toNat ^^^ y.toNat : Nat) : Int) := by
  rw [bitXor_and, bitAnd_pp hx hy]
  have := xor_and_nat x.toNat y.toNat
  omega
structure Room (n : Nat) (A : Around) : Prop where
  depth : A.depth + n < recursionLimit
  units : A.units + 8 * n + 200 < cLine
  handled : A.handled = none
theorem ba_noR_add : typeLookup (.type "bytearray") (dunderR "add") = pure none := by rw [typeLookup_type, builtinLookup_eq_fast]; kernel_rfl
theorem ba_noFill_add : fillsNumberSlot (.type "bytearray") "add" = pure false := PySem.fillsNumberSlot_seq (id := "bytearray.__add__") (r := none) ba_slot_add.lookup (by decide +kernel) ba_noR_add rfl
theorem ba_seq_add : seqSlot? (.type "bytearray") "__add__" = pure (some (.builtin "bytearray.__add__")) := PySem.seqSlot_of ba_slot_add.lookup (by decide +kernel)
section
variable {prog : Program} {w : World} {A : Around} {s : Shared} {φ : List Addr} {hp : List O} {Q : QE}
theorem ba_addM (l b : Addr) (x y : Array UInt8) (hsz : x.size + y.size ≤ sizeLine) :
    Meets (Builtin.«bytearray.__add__» ⟨[.ref l, .ref b], []⟩) (fun _ R s => s.heap.get? l = some (bytesObj x) ∧ s.heap.get? b = some (bytesObj y) ∧ R (.ok (.ret (Value.ref s.heap.objs.size))) { s with heap := s.heap.push (bytesObj (x ++ y)) }) :=
  .of_wp fun prog w A R s h => by
    refine bc fun no => ?_
    obtain ⟨hl, hb, h⟩ := h
    refine no ?_
    unfold Builtin.«bytearray.__add__»
    refine wpAny_bind (wpAny_pure ?_)
    dsimp only
    refine wpAny_bind (ba_buffer hl ?_)
    refine wpAny_bind (m := Builtin.Bytes.bufferQuiet? "bytearray.__add__" (.ref b)) ?_
    unfold Builtin.Bytes.bufferQuiet?
    refine wpAny_bind (wpAny_attempt (ba_buffer hb (wpAny_pure ?_)))
    dsimp only
    rw [if_neg (by simp only [Builtin.Bytes.tooLong, decide_eq_true_eq]; omega)]
    refine wpAny_bind (m := Builtin.Bytes.newBytearray (x ++ y)) ?_
    unfold Builtin.Bytes.newBytearray
    refine wpAny_newObj_type (wpAny_pure ⟨_, rfl, h⟩) ?_
    show (x ++ y).size ≤ sizeLine
    simpa using hsz
theorem ok_nums_add (H : HeapRep φ hp s.heap) {a b : Addr} {x y : List Int} (hx : ObjIs s.heap a (.nums x)) (hy : ObjIs s.heap b (.nums y)) (hz : x.length + y.length ≤ SZ) (q : Q (.ref hp.length) (hp ++ [.nums (x ++ y)])) :
    wpAny (model prog w) A (binaryOp .Add (.ref a) (.ref b)) (EPost φ s Q) No s := by
  obtain ⟨vs, ⟨n, e⟩, hi⟩ := hx
  obtain ⟨us, ⟨m, e'⟩, hj⟩ := hy
  have ez : vs.toArray ++ us.toArray = (vs ++ us).toArray := by simp
  refine concat_meets ⟨_, e, rfl⟩ ⟨_, e', rfl⟩ noFill_list_add seq_list_add PySem.F.slot_list_add PySem.F.entry_list_add (PySem.F.args_list_add_2 _ _) (list_addW a b vs.toArray us.toArray n m none none #[] #[] ?_) ⟨e, e', ?_⟩
  · have h1 := hi.length; have h2 := hj.length
    unfold SZ at hz; simp only [List.size_toArray, sizeLine]; omega
  · rw [ez]
    exact EPost.push H (obj_nums ⟨0, Heap.get?_push_size _ rfl⟩ (hi.append hj)) q
theorem nats_append (b c : Array UInt8) : nats (b ++ c) = nats b ++ nats c := by simp [nats]
theorem nats_length (b : Array UInt8) : (nats b).length = b.size := by simp [nats]
theorem ok_bytes_add (H : HeapRep φ hp s.heap) {a b : Addr} {x y : List Nat} (hx : ObjIs s.heap a (.bytes x)) (hy : ObjIs s.heap b (.bytes y)) (hz : x.length + y.length ≤ SZ) (q : Q (.ref hp.length) (hp ++ [.bytes (x ++ y)])) :
    wpAny (model prog w) A (binaryOp .Add (.ref a) (.ref b)) (EPost φ s Q) No s := by
  obtain ⟨c, e, rfl⟩ := hx
  refine bc fun no => ?_
  obtain ⟨d, e', rfl⟩ := hy
  refine no ?_
  rw [nats_length, nats_length] at hz
  refine concat_meets (ba_typeIs e) (ba_typeIs e') ba_noFill_add ba_seq_add ba_slot_add ba_entry_add (ba_args_add _ _) (ba_addM a b c d (by unfold SZ at hz; unfold sizeLine; omega)) ⟨e, e', ?_⟩
  exact EPost.push H (obj_bytes (Heap.get?_push_size _ rfl) (nats_append _ _)) q
theorem intsAre_rep (n : Int) (t : Tok) : ∀ k : Nat, IntsAre (List.replicate k (.int n t)) (List.replicate k n)
  | 0 => .nil
  | k + 1 => by rw [List.replicate_succ, List.replicate_succ]; exact .cons n t (intsAre_rep n t k)
theorem ok_nums_mul (H : HeapRep φ hp s.heap) {a : Addr} {x j : Int} {t : Tok} (hx : ObjIs s.heap a (.nums [x])) (hz : j ≤ SZ) (hlo : -(2 ^ 62) ≤ j) (q : Q (.ref hp.length) (hp ++ [.nums (List.replicate j.toNat x)])) :
    wpAny (model prog w) A (binaryOp .Mult (.ref a) (.int j t)) (EPost φ s Q) No s := by
  obtain ⟨vs, ⟨n, e⟩, hi⟩ := hx
  obtain ⟨u, rfl⟩ : ∃ u, vs = [.int x u] := by
    cases hi with
    | cons _ u r => cases r; exact ⟨u, rfl⟩
  unfold SZ at hz
  refine wpAny_binaryOp_repeat_ref (T := "list") (U := "int") (by decide) ⟨_, e, rfl⟩ (fun s' => typeIs_int s' j t) noFill_list_mul F.fills_int_mul F.slot_int_rmul repeat_list F.slot_int_index.lookup
    (call_meets F.slot_int_rmul (typeIs_int s j t) F.entry_int_rmul (F.args_int_rmul_2 _ _) (int___rmul___int_list j t a _ n)
      ⟨e, rfl, ⟨_, e, rfl⟩, call_meets F.slot_list_mul ⟨_, e, rfl⟩ F.entry_list_mul (F.args_list_mul_2 _ _)
        (AutoListH.list___mul___list_int_3 a _ n j t (by simp [Builtin.List.listFitsIndex]; omega) (by simp; omega) (by simp [Builtin.List.listTooLong, sizeLine]; omega))
        ⟨e, ?_⟩⟩)
  refine EPost.push H (obj_nums (vs := List.replicate j.toNat (.int x u)) ⟨0, ?_⟩ (intsAre_rep x u j.toNat)) q
  rw [Heap.get?_push_size _ rfl]
  congr 3
  rw [listMul_foldl_if]
  simp
theorem bin_ok {op : Operator} {u v : V} {a b : Value} (H : HeapRep φ hp s.heap) (ru : Rep φ u a) (rv : Rep φ v b) (h : wBin op u v hp Q) :
    wpAny (model prog w) A (binaryOp op a b) (EPost φ s Q) No s := by
  induction u with
  | int i =>
    obtain ⟨t, rfl⟩ := ru
    induction v with
    | int j =>
      obtain ⟨t', rfl⟩ := rv
      induction op with
      | Add => exact PyProof.Rows.add_int (.int H h)
      | Sub => exact PyProof.Rows.sub_int (.int H h)
      | Mult => exact PyProof.Rows.mul_int (.int H h.2.2) (.of_left (intBits_le h.1))
      | FloorDiv => exact PyProof.Rows.floordiv_int h.1 (.int H h.2.2) (.inl (PyProof.noPylong_small h.2.1))
      | Mod => exact PyProof.Rows.mod_int' h.1 (.int H h.2)
      | BitXor => exact PyProof.Rows.xor_int (by rw [bitXor_nat h.1 h.2.1]; exact .int H h.2.2)
      | BitAnd => exact PyProof.Rows.and_int (by rw [bitAnd_pp h.1 h.2.1]; exact .int H h.2.2)
      | Pow =>
        refine bc fun no => ?_
        obtain ⟨h1, h2, h3, h4, h5⟩ := h
        refine no ?_
        refine PyProof.Rows.pow_int h3 ?_ (.int H h5)
        have : Builtin.Int.intBits i ≤ 9 := intBits_le (by omega)
        have : (Builtin.Int.intBits i : Int) * j ≤ 9 * 16 := Int.mul_le_mul (by omega) h4 h3 (by decide)
        omega
      | LShift =>
        obtain ⟨h1, h2, rfl, h4⟩ := h
        refine PyProof.Rows.lshift_int_small (by decide) (by decide) (by omega) ?_
        exact .int H h4
      | RShift =>
        obtain ⟨h1, h2, rfl, h4⟩ := h
        refine PyProof.Rows.rshift_int (by decide) ?_
        rw [fdiv_two]
        exact .int H h4
      | _ => exact h.elim
    | _ => exact h.elim
  | ref x =>
    obtain ⟨a, ea, rfl⟩ := ru
    induction v with
    | ref y =>
      obtain ⟨b, eb, rfl⟩ := rv
      refine addR_inv h ?_ ?_
      · rintro _ _ rfl e1 e2 h
        exact ok_nums_add H (H.at ea e1) (H.at eb e2) h.1 h.2
      · rintro _ _ rfl e1 e2 h
        exact ok_bytes_add H (H.at ea e1) (H.at eb e2) h.1 h.2
    | int j =>
      obtain ⟨t, rfl⟩ := rv
      refine mulR_inv h ?_
      rintro _ rfl e1 h
      exact ok_nums_mul H (H.at ea e1) h.1 h.2.1 h.2.2
    | _ => exact h.elim
  | _ => exact h.elim
end
end Mine
end
section
open PySem PyProof.Rows
open Sem (wp)
open AutoSeq1 (wpAny_loadPart')
set_option maxRecDepth 100000
namespace Mine
local macro_rules | `(tactic| omega) => `(tactic| first | assumption | lia | omega +splitDisjunctions)
section
variable {prog : Program} {w : World} {A : Around} {s : Shared} {φ : List Addr} {hp : List O} {Q : QE}
theorem any_eq_mem (i : Int) : ∀ l : List Int, l.any (· == i) = decide (i ∈ l)
  | [] => by simp
  | x :: r => by
    rw [List.any_cons, any_eq_mem i r]
    by_cases h : x = i
    · simp [h]
    · have h2 : ¬ i = x := fun e => h e.symm
      have h3 : (x == i) = false := by simpa using h
      simp [h2, h3]
theorem is_none_ok {v : V} {a : Value} (r : Rep φ v a) (H : HeapRep φ hp s.heap) (q : Q (.bool (decide (v = .none))) hp) : wpAny (model prog w) A (compareOp .Is a .none) (EPost φ s Q) No s := by
  refine wpAny_is_plain ?_ ?_
  · induction v with
    | none => cases r; rfl
    | bool b => cases r; rfl
    | int i => obtain ⟨t, rfl⟩ := r; rfl
    | ref n => obtain ⟨x, _, rfl⟩ := r; rfl
  · have e : (a == Value.none) = decide (v = .none) := by
      induction v with
      | none => cases r; rfl
      | bool b => cases r; rfl
      | int i => obtain ⟨t, rfl⟩ := r; rfl
      | ref n => obtain ⟨x, _, rfl⟩ := r; rfl
    rw [e]
    exact .bool H q
theorem cmp_ok {n : Nat} (R : Room n A) {op : CmpOp} {u v : V} {a b : Value} (H : HeapRep φ hp s.heap) (ru : Rep φ u a) (rv : Rep φ v b) (h : wCmp op u v hp Q) :
    wpAny (model prog w) A (compareOp op a b) (EPost φ s Q) No s := by
  have hu : A.units + 64 < cLine := by have := R.units; omega
  induction v with
  | none =>
    cases rv
    have h' : op = .Is ∧ Q (.bool (decide (u = .none))) hp := by
      cases u <;> cases op <;> first | exact ⟨rfl, h⟩ | exact h.elim
    obtain ⟨rfl, h'⟩ := h'
    exact is_none_ok ru H h'
  | int j =>
    obtain ⟨t', rfl⟩ := rv
    induction u with
    | int i =>
      obtain ⟨t, rfl⟩ := ru
      induction op with
      | Eq =>
        refine PyProof.Rows.eq_int (.bool H ?_)
        have : (i == j) = decide (i = j) := by by_cases e : i = j <;> simp [e]
        rw [this]; exact h
      | NotEq =>
        refine PyProof.Rows.ne_int (.bool H ?_)
        have : (i != j) = decide (i ≠ j) := by by_cases e : i = j <;> simp [e]
        rw [this]; exact h
      | Lt => exact PyProof.Rows.lt_int (.bool H h)
      | LtE => exact PyProof.Rows.le_int (.bool H h)
      | Gt => exact PyProof.Rows.gt_int (.bool H h)
      | GtE => exact PyProof.Rows.ge_int (.bool H h)
      | _ => exact h.elim
    | _ => exact h.elim
  | ref y =>
    obtain ⟨b, eb, rfl⟩ := rv
    induction u with
    | int i =>
      obtain ⟨t, rfl⟩ := ru
      induction op with
      | NotIn =>
        refine notIn_inv h fun l e1 h => ?_
        obtain ⟨vs, p, hi⟩ := H.at eb e1
        refine notin_list_ints p.isList hi (.bool H ?_)
        rw [any_eq_mem]
        simpa using h
      | _ => exact h.elim
    | ref x =>
      obtain ⟨a, ea, rfl⟩ := ru
      refine cmpR_inv h ?_ ?_
      · rintro _ _ rfl e1 e2 h
        obtain ⟨vs, p, hi⟩ := H.at ea e1
        obtain ⟨us, p', hi'⟩ := H.at eb e2
        exact PySem.W.eq_intsK p.isList hi p'.isList hi' hu (.bool H h)
      · rintro _ _ rfl e1 e2 h
        obtain ⟨vs, p, hi⟩ := H.at ea e1
        obtain ⟨us, p', hi'⟩ := H.at eb e2
        refine PySem.W.ne_intsK p.isList hi p'.isList hi' hu (.bool H ?_)
        rw [← decide_not]; exact h
    | _ => exact h.elim
  | bool _ => cases u <;> exact h.elim
theorem truth_ok {v : V} {a : Value} (H : HeapRep φ hp s.heap) (r : Rep φ v a) {Q : Bool → List O → Prop} (h : wTruth v hp Q) :
    wpAny (model prog w) A (truthy a) (BPost φ s Q) No s := by
  induction v with
  | none => cases r; exact wpAny_pure ⟨φ, hp, .refl _ _, H, h⟩
  | bool b => cases r; exact wpAny_truthy_bool ⟨φ, hp, .refl _ _, H, h⟩
  | int i =>
    obtain ⟨t, rfl⟩ := r
    refine PyProof.Rows.truthy_int ⟨φ, hp, .refl _ _, H, ?_⟩
    have : (i != 0) = decide (i ≠ 0) := by by_cases e : i = 0 <;> simp [e]
    rw [this]; exact h
  | ref x =>
    obtain ⟨a, ea, rfl⟩ := r
    unfold wTruth at h
    dsimp only at h
    split at h
    · rename_i l e1
      obtain ⟨vs, p, hi⟩ := H.at ea e1
      have hlen := hi.length
      refine wpAny_truthy_list p.isList (by have := h.1; unfold SZ at this; simp; omega) ⟨φ, hp, .same rfl rfl rfl, H, ?_⟩
      have : (!vs.toArray.isEmpty) = decide (l ≠ []) := by
        cases vs <;> cases l <;> simp_all
      rw [this]; exact h.2
    · exact h.elim
theorem ba_getM (a : Addr) (b : Array UInt8) (k : Int) (t : Tok) (x : UInt8) (h1 : Builtin.Bytes.fitsIndex k = true) (h2 : (seqIndex? k b.size).bind (b[·]?) = some x) :
    Meets (Builtin.«bytearray.__getitem__» ⟨[.ref a, .int k t], []⟩) (fun _ R s => s.heap.get? a = some (bytesObj b) ∧ R (.ok (.ret (.int x.toNat s.toks))) { s with toks := s.toks + 1 }) :=
  .of_wp fun prog w A R s h => by
    obtain ⟨hp, g, d, tk, os⟩ := s
    obtain ⟨hl, h⟩ := h
    have f1 := AutoSeq1.idx_int
    wp_walk using wpAny_loadPart' hl
    rw [h2]
    wp_walk
    exact ⟨_, rfl, h⟩
theorem ba_lenM (a : Addr) (b : Array UInt8) :
    Meets (Builtin.«bytearray.__len__» ⟨[.ref a], []⟩) (fun _ R s => s.heap.get? a = some (bytesObj b) ∧ R (.ok (.ret (.int b.size s.toks))) { s with toks := s.toks + 1 }) :=
  .of_wp fun prog w A R s h => by
    obtain ⟨hp, g, d, tk, os⟩ := s
    obtain ⟨hl, h⟩ := h
    wp_walk using wpAny_loadPart' hl
    exact ⟨_, rfl, h⟩
theorem pidx_some {i : Int} {n k : Nat} (h : pidx i n = some k) : seqIndex? i n = some k ∧ k < n ∧ -(n : Int) ≤ i ∧ i < n := by
  unfold pidx at h
  split at h
  · rename_i h0
    split at h
    · rename_i h1
      cases h
      exact ⟨seqIndex_of h0 h1, by omega, by omega, h1⟩
    · cases h
  · rename_i h0
    split at h
    · rename_i h1
      cases h
      exact ⟨seqIndex_neg (by omega) h1, by omega, h1, by omega⟩
    · cases h
theorem ba_getItem {a : Addr} {b : Array UInt8} {k : Int} {t : Tok} {x : UInt8} {E : Value → Shared → Prop} {Q : Value → Shared → Prop} (hl : s.heap.get? a = some (bytesObj b)) (h1 : Builtin.Bytes.fitsIndex k = true) (h2 : (seqIndex? k b.size).bind (b[·]?) = some x)
    (h : Q (.int x.toNat s.toks) { s with toks := s.toks + 1 }) : wpAny (model prog w) A (getItem (.ref a) (.int k t)) Q E s := by
  unfold getItem
  refine wpAny_holding ?_
  refine wpAny_bind (wpAny_sequenceKey (ba_typeIs hl) (by decide) ?_)
  refine wpAny_bind (wpAny_callSpecial?_slot (name := Str.ofString "__getitem__") (ba_typeIs hl) ba_slot_getitem (call_meets ba_slot_getitem (ba_typeIs hl) ba_entry_getitem (ba_args_getitem _ _) (ba_getM a b k t x h1 h2) ⟨hl, wpAny_pure h⟩))
theorem list_getItem {a : Addr} {vs : List Value} {k : Int} {t : Tok} {v : Value} {E : Value → Shared → Prop} {Q : Value → Shared → Prop} {j : Nat} (hl : s.heap.IsList a vs.toArray) (hs : vs.length ≤ 4096) (hj : pidx k vs.length = some j) (hx : vs[j]? = some v)
    (h : Q v s) : wpAny (model prog w) A (getItem (.ref a) (.int k t)) Q E s := by
  obtain ⟨h1, h2, h3, h4⟩ := pidx_some hj
  by_cases h0 : 0 ≤ k
  · have e : k.toNat = j := by rw [seqIndex_of h0 h4] at h1; exact Option.some.inj h1
    exact wpAny_getItem_list hl h0 (by omega) (by simpa [e] using hx) h
  · have e : (k + vs.length).toNat = j := by rw [seqIndex_neg (by omega) h3] at h1; exact Option.some.inj h1
    exact wpAny_getItem_list_neg hl (by omega) (by simpa using h3) (by omega) (by simpa [e] using hx) h
theorem intsAre_get : ∀ {vs : List Value} {l : List Int}, IntsAre vs l → ∀ {j : Nat} {y : Int}, l[j]? = some y → ∃ t, vs[j]? = some (.int y t)
  | _, _, .nil, _, _, h => by simp at h
  | _, _, .cons n t r, 0, y, h => by simp at h; subst h; exact ⟨t, rfl⟩
  | _, _, .cons n t r, j + 1, y, h => by simpa using intsAre_get r (j := j) (by simpa using h)
theorem idx_ok {u v : V} {a i : Value} (H : HeapRep φ hp s.heap) (ru : Rep φ u a) (rv : Rep φ v i) (h : wIdx u v hp Q) :
    ∃ x T id, a = .ref x ∧ s.TypeIs a T ∧ typeLookup (.type T) "__getitem__" = pure (some (.builtin id)) ∧ wpAny (model prog w) A (getItem a i) (EPost φ s Q) No s := by
  induction u with
  | ref x =>
    induction v with
    | int k =>
      obtain ⟨a, ea, rfl⟩ := ru
      obtain ⟨t, rfl⟩ := rv
      refine ⟨a, ?_⟩
      unfold wIdx at h
      dsimp only at h
      split at h
      · rename_i l e1
        obtain ⟨vs, p, hi⟩ := H.at ea e1
        refine ⟨_, _, rfl, p.isList.typeIs, slot_list_getitem.lookup, ?_⟩
        split at h
        · rename_i y hy
          obtain ⟨j, hj, hy⟩ := Option.bind_eq_some_iff.mp hy
          have hlen := hi.length
          have hz := h.1
          unfold SZ at hz
          obtain ⟨t', ht⟩ := intsAre_get hi hy
          exact list_getItem p.isList (by omega) (by rw [hlen]; exact hj) ht (.int' H h.2)
        · exact h.elim
      · rename_i l e1
        obtain ⟨b, e, rfl⟩ := H.at ea e1
        refine ⟨_, _, rfl, ba_typeIs e, ba_slot_getitem.lookup, ?_⟩
        split at h
        · rename_i y hy
          obtain ⟨j, hj, hy⟩ := Option.bind_eq_some_iff.mp hy
          rw [nats_length] at hj
          obtain ⟨h1, h2, h3, h4⟩ := pidx_some hj
          have hz := h.1
          rw [nats_length] at hz
          unfold SZ at hz
          obtain ⟨c, hc, rfl⟩ : ∃ c, b[j]? = some c ∧ c.toNat = y := by
            simp only [nats, List.getElem?_map, Option.map_eq_some_iff, Array.getElem?_toList] at hy
            exact hy
          refine ba_getItem e (by simp [Builtin.Bytes.fitsIndex]; omega) (by rw [h1]; exact hc) (.int H h.2)
        · exact h.elim
      · exact h.elim
    | _ => exact h.elim
  | _ => exact h.elim
theorem len_nums {a : Addr} {l : List Int} (H : HeapRep φ hp s.heap) (x : ObjIs s.heap a (.nums l)) (hz : l.length ≤ SZ) (q : Q (.int l.length) hp) : wpAny (model prog w) A (call (.builtin "len") [.ref a]) (EPost φ s Q) No s := by
  obtain ⟨vs, p, hi⟩ := x
  have hlen := hi.length
  unfold SZ at hz
  refine PySem.Calls.call_len_list p.isList (by simp; omega) ?_
  rw [show (vs.toArray.size : Int) = (l.length : Int) by simp; omega]
  exact .int H q
theorem len_bytes {a : Addr} {l : List Nat} (H : HeapRep φ hp s.heap) (x : ObjIs s.heap a (.bytes l)) (hz : l.length ≤ SZ) (q : Q (.int l.length) hp) : wpAny (model prog w) A (call (.builtin "len") [.ref a]) (EPost φ s Q) No s := by
  obtain ⟨b, e, rfl⟩ := x
  rw [nats_length] at hz q
  unfold SZ at hz
  exact call_len_meets (n := b.size) (ba_typeIs e) ba_slot_len ba_entry_len (ba_args_len _) (ba_lenM a b) (by omega) (by omega) (fun Q' hq => ⟨e, hq⟩) (.int H q)
theorem max2_ok {i j : Int} {t u : Tok} {n : Nat} (R : Room n A) (H : HeapRep φ hp s.heap) (q : Q (.int (max i j)) hp) : wpAny (model prog w) A (call (.builtin "max") [.int i t, .int j u]) (EPost φ s Q) No s := by
  refine max_two_ints R.handled fun h' tk k => ?_
  by_cases c : j > i
  · rw [if_pos c]
    rw [show max i j = j by omega] at q
    exact EPost.kept (s' := { s with heap := h', toks := tk }) H k rfl rfl q
  · rw [if_neg c]
    rw [show max i j = i by omega] at q
    exact EPost.kept (s' := { s with heap := h', toks := tk }) H k rfl rfl q
theorem max_ok {a : Addr} {l : List Int} {n : Nat} (R : Room n A) (H : HeapRep φ hp s.heap) (x : ObjIs s.heap a (.nums l)) (hne : l ≠ []) (q : ∀ M, M ∈ l → (∀ y ∈ l, y ≤ M) → Q (.int M) hp) :
    wpAny (model prog w) A (call (.builtin "max") [.ref a]) (EPost φ s Q) No s := by
  obtain ⟨vs, p, hi⟩ := x
  obtain ⟨xs, e⟩ := hi.allInts.items
  have hns : l = xs.toList.map (·.1) := by
    rw [← hi.numsOf, ← nums_intItems, ← e]
  have hne' : 0 < l.length := List.length_pos_iff.mpr hne
  have hsz : 0 < xs.size := by
    have h3 := hne'; rw [hns, List.length_map, Array.length_toList] at h3; exact h3
  have hl := p.isList
  rw [e] at hl
  refine max_intList R.handled hl hsz fun v h' tk hv hk => ?_
  obtain ⟨t, rfl⟩ := intItems_at hv
  obtain ⟨h1, h2⟩ := argBest_gt (numAt xs) (xs.size - 1)
  refine EPost.kept (s' := { s with heap := h', toks := tk }) H hk rfl rfl (q _ ?_ fun a ha => ?_)
  · rw [hns, numAt_eq]; exact getD_mem (by rw [List.length_map, Array.length_toList]; omega)
  · rw [hns] at ha
    obtain ⟨j, hj, rfl⟩ := mem_getD ha
    rw [List.length_map, Array.length_toList] at hj
    rw [← numAt_eq]; exact h2 j (by omega)
theorem sorted_ok {a : Addr} {l : List Int} (H : HeapRep φ hp s.heap) (x : ObjIs s.heap a (.nums l)) (h64 : l.length < 64) (q : ∀ l', l'.Perm l → l'.Pairwise (· ≤ ·) → Q (.ref hp.length) (hp ++ [.nums l'])) :
    wpAny (model prog w) A (call (.builtin "sorted") [.ref a]) (EPost φ s Q) No s := by
  obtain ⟨vs, p, hi⟩ := x
  refine sorted_ints p.isList hi (by rw [hi.length]; exact h64) fun out ns' a1 a2 a3 => ?_
  refine EPost.made H (fun b o e => sortedAll_old e) rfl rfl ?_ (obj_nums (vs := out.toList) (sortedAll_at s.heap vs out) a1) (q ns' a2 a3)
  induction e : s.heap.get? (s.heap.objs.size + 1) with
  | none => rfl
  | some o => exact absurd (Heap.lt_size e) (Nat.not_lt.mpr (Nat.le_succ _))
theorem list_nums_ok {a : Addr} {l : List Int} (H : HeapRep φ hp s.heap) (x : ObjIs s.heap a (.nums l)) (hz : l.length ≤ SZ) (q : Q (.ref hp.length) (hp ++ [.nums l])) :
    wpAny (model prog w) A (call (.type "list") [.ref a]) (EPost φ s Q) No s := by
  obtain ⟨vs, ⟨n, e⟩, hi⟩ := x
  have hlen := hi.length
  unfold SZ at hz
  refine call_list_seq (hsz := by simp only [List.size_toArray, sizeLine]; omega) a (.inl rfl) e rfl rfl fun h' c' k e' => ?_
  exact EPost.made H k rfl rfl (fresh_size _) (obj_nums ⟨c', e'⟩ hi) q
end
end Mine
end
section
open PySem PyProof.Rows
open Sem (wp)
open AutoSeq1 (wpAny_loadPart')
set_option maxRecDepth 100000
namespace Mine
local macro_rules | `(tactic| omega) => `(tactic| first | assumption | lia | omega +splitDisjunctions)
noncomputable def bytesPart (v : Value) : Sem Value := do
  if v == .none then return .none
  if (← specialOf v "__index__").isNone then
    rule "bytes.slice.part-no-index"; raiseError "TypeError" "slice indices must be integers or None or have an __index__ method"
  return rawInt (← asIndex v)
theorem bytesSliceParts_eq (s : Value) : Builtin.Bytes.sliceParts s = (do
    let step ← bytesPart (← field s 2)
    if step == rawInt 0 then rule "bytes.slice.step-zero"; raiseError "ValueError" "slice step cannot be zero"
    let first ← bytesPart (← field s 0)
    let last ← bytesPart (← field s 1)
    return (first, last, step)) := rfl
section
variable {prog : Program} {w : World} {A : Around} {s : Shared} {φ : List Addr} {hp : List O} {Q : QE} {E : Value → Shared → Prop}
theorem bytesPart_ok {v : Value} {k : Option Int} {Q : Value → Shared → Prop} (hv : IsPart v k) (h : Q (rawPart k) s) : wpAny (model prog w) A (bytesPart v) Q E s := by
  induction hv with
  | none => exact wpAny_pure h
  | int i t =>
    unfold bytesPart
    rw [if_neg (show ¬ ((Value.int i t == Value.none) = true) from Bool.false_ne_true)]
    refine wpAny_bind (wpAny_specialOf (T := "int") (typeIs_int s i t) int_index ?_)
    simp only [Option.isNone_some, Bool.false_eq_true, if_false]
    exact wpAny_bind (wpAny_of_eq (a := i) rfl (wpAny_pure h))
theorem sliceParts_ok {sl : Addr} {vl vu vs : Value} {lo hi st : Option Int} {Q : Value × Value × Value → Shared → Prop} (hs : s.heap.IsSliceOf sl vl vu vs) (pl : IsPart vl lo) (pu : IsPart vu hi) (ps : IsPart vs st) (h0 : st ≠ some 0)
    (h : Q (rawPart lo, rawPart hi, rawPart st) s) : wpAny (model prog w) A (Builtin.Bytes.sliceParts (.ref sl)) Q E s := by
  refine bc fun no => ?_
  obtain ⟨os, hos, hcs, hds⟩ := id hs
  refine no ?_
  have hstep : ¬ ((rawPart st == rawInt 0) = true) := by
    induction st with
    | none => exact Bool.false_ne_true
    | some c =>
      intro hh
      have : c = 0 := by simpa [rawPart, rawInt] using hh
      exact h0 (by rw [this])
  rw [bytesSliceParts_eq]
  refine wpAny_bind (wpAny_field hos hds (x := vs) rfl (wpAny_bind (bytesPart_ok ps ?_)))
  rw [if_neg hstep]
  refine wpAny_bind (wpAny_field hos hds (x := vl) rfl (wpAny_bind (bytesPart_ok pl ?_)))
  exact wpAny_bind (wpAny_field hos hds (x := vu) rfl (wpAny_bind (bytesPart_ok pu (wpAny_pure h))))
noncomputable def bytesPick (b : Array UInt8) (lo hi st : Option Int) : Array UInt8 :=
  Builtin.Bytes.sliced b (sliceBounds lo hi st b.size).1 (sliceBounds lo hi st b.size).2.1 (sliceBounds lo hi st b.size).2.2
theorem bytesPick_size (b : Array UInt8) (lo hi : Option Int) : (bytesPick b lo hi none).toList = sliceOf b.toList lo hi := by
  unfold bytesPick Builtin.Bytes.sliced sliceOf
  rw [sliceBounds_plain]
  simp only [sliceRange_one, pick_run, Array.length_toList]
theorem bytesPick_rev (b : Array UInt8) : (bytesPick b none none (some (-1))).toList = b.toList.reverse := by
  unfold bytesPick Builtin.Bytes.sliced
  rw [PySem.W.krv_bounds]
  show ((sliceRange ((b.size : Int) - 1) (-1) (-1)).filterMap (b[·]?)) = _
  rw [PySem.W.krv_sliceRange, PySem.W.krv_range, List.filterMap_reverse, PySem.W.krv_all]
theorem sliceOf_map {α β : Type} (f : α → β) (l : List α) (lo hi : Option Int) : (sliceOf l lo hi).map f = sliceOf (l.map f) lo hi := by
  unfold sliceOf; simp [List.map_take, List.map_drop]
theorem sliceOf_length {α : Type} (l : List α) (lo hi : Option Int) : (sliceOf l lo hi).length ≤ l.length := by
  unfold sliceOf; simp; omega
theorem ba_getSlice {a sl : Addr} {b : Array UInt8} {vl vu vs : Value} {lo hi st : Option Int} {Q : Value → Shared → Prop} (hl : s.heap.get? a = some (bytesObj b)) (hs : s.heap.IsSliceOf sl vl vu vs) (pl : IsPart vl lo) (pu : IsPart vu hi) (ps : IsPart vs st) (h0 : st ≠ some 0)
    (hz : (bytesPick b lo hi st).size ≤ sizeLine) (h : Q (.ref s.heap.objs.size) { s with heap := s.heap.push (bytesObj (bytesPick b lo hi st)) }) : wpAny (model prog w) A (getItem (.ref a) (.ref sl)) Q E s := by
  obtain ⟨os, hos, hcs, hds⟩ := id hs
  have hTs : s.TypeIs (.ref sl) "slice" := ⟨os, hos, hcs⟩
  unfold getItem
  refine wpAny_holding ?_
  refine wpAny_bind (wpAny_sequenceKey (ba_typeIs hl) (by decide) ?_)
  refine wpAny_bind (wpAny_callSpecial?_slot (name := Str.ofString "__getitem__") (ba_typeIs hl) ba_slot_getitem
    (wpAny_call_entry ba_slot_getitem (ba_typeIs hl) ba_entry_getitem ?_ (ba_args_getitem _ _)))
  unfold Builtin.«bytearray.__getitem__»
  refine wpAny_bind (wpAny_pure ?_)
  dsimp only
  refine wpAny_bind (m := Builtin.Bytes.subscript? (.ref sl)) ?_
  unfold Builtin.Bytes.subscript?
  refine wpAny_bind (wpAny_specialOf hTs slice_no_index (wpAny_pure ?_))
  dsimp only
  refine wpAny_bind (wpAny_typeOf hTs ?_)
  rw [if_neg (by decide)]
  refine wpAny_bind (sliceParts_ok hs pl pu ps h0 ?_)
  refine wpAny_bind (ba_payload hl ?_)
  refine wpAny_bind (wpAny_of_eq (sliceIndices_raw lo hi st b.size h0) ?_)
  refine wpAny_bind (m := Builtin.Bytes.newBytearray _) ?_
  unfold Builtin.Bytes.newBytearray
  exact wpAny_newObj_type (wpAny_pure ⟨_, rfl, wpAny_pure h⟩) hz
theorem isPart_of {v : V} {a : Value} {b : Option Int} (r : Rep φ v a) (h : v.bound = some b) : IsPart a b := by
  induction v with
  | none => cases r; cases h; exact .none
  | int i => obtain ⟨t, rfl⟩ := r; cases h; exact .int i t
  | _ => cases h
theorem slc_ok {u lo hi st : V} {a vl vu vs : Value} (H : HeapRep φ hp s.heap) (ru : Rep φ u a) (r1 : Rep φ lo vl) (r2 : Rep φ hi vu) (r3 : Rep φ st vs) (h : wSlc u lo hi st hp Q) :
    ∃ x T id, a = .ref x ∧ s.TypeIs a T ∧ typeLookup (.type T) "__getitem__" = pure (some (.builtin id)) ∧
      wpAny (model prog w) A (getItem a (.ref s.heap.objs.size)) (EPost φ s Q) No { s with heap := s.heap.push { cls := .type "slice", data := .fields #[vl, vu, vs] } } := by
  induction u with
  | ref x =>
    obtain ⟨a, ea, rfl⟩ := ru
    refine ⟨a, ?_⟩
    have K : Keep s.heap (s.heap.push { cls := .type "slice", data := .fields #[vl, vu, vs] }) := fun _ _ e => Heap.get?_push_of_some _ e
    have hsl := Heap.IsSliceOf.new s.heap vl vu vs
    have fr : s.heap.get? (s.heap.push { cls := .type "slice", data := .fields #[vl, vu, vs] }).objs.size = none := by
      induction e : s.heap.get? (s.heap.push { cls := .type "slice", data := .fields #[vl, vu, vs] }).objs.size with
      | none => rfl
      | some o => exact absurd (Heap.lt_size e) (by rw [Heap.size_push]; exact Nat.not_lt.mpr (Nat.le_succ _))
    refine wSlc_inv h ?_ ?_ ?_ ?_
    · rintro l hh xs rfl e1 e2 e3 h
      obtain rfl : vs = .none := r3
      obtain ⟨ws, p, hi⟩ := H.at ea e3
      refine ⟨_, _, rfl, p.isList.typeIs, slot_list_getitem.lookup, ?_⟩
      have hz := h.1
      have hlen := hi.length
      unfold SZ at hz
      refine wpAny_getItem_list_slice (hsz := by simp only [List.size_toArray, sizeLine]; omega) (p.at fun o e => K _ _ e).isList hsl (isPart_of r1 e1) (isPart_of r2 e2) .none (by decide) ?_
      refine EPost.made H (fun b o e => Heap.get?_push_of_some _ (K b o e)) rfl rfl fr (obj_nums (vs := (slicePick ws.toArray l hh none).toList) ⟨0, Heap.get?_push_size _ rfl⟩ ?_) h.2
      rw [slicePick_plain]
      simp only [List.size_toArray, hlen]
      exact (hi.drop _).take _
    · rintro l hh xs rfl e1 e2 e3 h
      obtain rfl : vs = .none := r3
      obtain ⟨b, e, rfl⟩ := H.at ea e3
      refine ⟨_, _, rfl, ba_typeIs e, ba_slot_getitem.lookup, ?_⟩
      have hz := h.1
      rw [nats_length] at hz
      unfold SZ at hz
      refine ba_getSlice (K _ _ e) hsl (isPart_of r1 e1) (isPart_of r2 e2) .none (by decide) ?_ ?_
      · have := sliceOf_length b.toList l hh
        rw [← bytesPick_size] at this
        simp only [Array.length_toList] at this
        unfold sizeLine; omega
      · refine EPost.made H (fun b o e => Heap.get?_push_of_some _ (K b o e)) rfl rfl fr (obj_bytes (Heap.get?_push_size _ rfl) ?_) h.2
        unfold nats
        rw [bytesPick_size, sliceOf_map]
    · rintro xs rfl e1 e2 e3 h
      obtain ⟨t, rfl⟩ := r3
      obtain ⟨ws, p, hi⟩ := H.at ea e3
      refine ⟨_, _, rfl, p.isList.typeIs, slot_list_getitem.lookup, ?_⟩
      have hz := h.1
      have hlen := hi.length
      unfold SZ at hz
      refine wpAny_getItem_list_slice (hsz := by simp only [List.size_toArray, sizeLine]; omega) (p.at fun o e => K _ _ e).isList hsl (isPart_of r1 e1) (isPart_of r2 e2) (.int _ t) (by decide) ?_
      refine EPost.made H (fun b o e => Heap.get?_push_of_some _ (K b o e)) rfl rfl fr (obj_nums (vs := (slicePick ws.toArray none none (some (-1))).toList) ⟨0, Heap.get?_push_size _ rfl⟩ ?_) h.2
      rw [PySem.W.krv_pick]
      exact hi.reverse
    · rintro xs rfl e1 e2 e3 h
      obtain ⟨t, rfl⟩ := r3
      obtain ⟨b, e, rfl⟩ := H.at ea e3
      refine ⟨_, _, rfl, ba_typeIs e, ba_slot_getitem.lookup, ?_⟩
      have hz := h.1
      rw [nats_length] at hz
      unfold SZ at hz
      refine ba_getSlice (K _ _ e) hsl (isPart_of r1 e1) (isPart_of r2 e2) (.int _ t) (by decide) ?_ ?_
      · have := congrArg List.length (bytesPick_rev b)
        simp only [Array.length_toList, List.length_reverse] at this
        unfold sizeLine; omega
      · refine EPost.made H (fun b o e => Heap.get?_push_of_some _ (K b o e)) rfl rfl fr (obj_bytes (Heap.get?_push_size _ rfl) ?_) h.2
        unfold nats
        rw [bytesPick_rev, List.map_reverse]
  | _ => exact h.elim
end
end Mine
end
section
open PySem PyProof.Rows
open Sem (wp)
open AutoSeq1 (wpAny_loadPart')
set_option maxRecDepth 100000
namespace Mine
local macro_rules | `(tactic| omega) => `(tactic| first | assumption | lia | omega +splitDisjunctions)
theorem HeapRep.put {φ : List Addr} {hp : List O} {h h' : Heap} (H : HeapRep φ hp h) {r : Nat} {a : Addr} (e : φ[r]? = some a) (hs : Heap.SameBut a h h') {o : O} (i : ObjIs h' a o) : HeapRep φ (hp.set r o) h' := by
  refine ⟨by rw [List.length_set]; exact H.len, H.nodup, fun j b q e1 e2 => ?_⟩
  by_cases hj : j = r
  · subst hj
    obtain rfl : a = b := Option.some.inj (e.symm.trans e1)
    have hlt : j < hp.length := by
      rw [← H.len]
      rcases Nat.lt_or_ge j φ.length with h | h
      · exact h
      · rw [List.getElem?_eq_none h] at e; cases e
    rw [List.getElem?_set_self hlt] at e2
    obtain rfl : o = q := Option.some.inj e2
    exact i
  · rw [List.getElem?_set_ne (Ne.symm hj)] at e2
    have hne : b ≠ a := by
      rintro rfl
      have h1 : r < φ.length := by
        rcases Nat.lt_or_ge r φ.length with h | h
        · exact h
        · rw [List.getElem?_eq_none h] at e; cases e
      have h2 : j < φ.length := by
        rcases Nat.lt_or_ge j φ.length with h | h
        · exact h
        · rw [List.getElem?_eq_none h] at e1; cases e1
      exact hj ((List.getElem?_inj h2 H.nodup).mp (e1.trans e.symm))
    have := H.objs j b q e1 e2
    induction q with
    | nums l => obtain ⟨vs, ⟨n, p⟩, hi⟩ := this; exact ⟨vs, ⟨n, (hs.2 b hne).trans p⟩, hi⟩
    | bytes l => obtain ⟨c, p, hi⟩ := this; exact ⟨c, (hs.2 b hne).trans p, hi⟩
section
variable {prog : Program} {w : World} {A : Around} {s : Shared} {E : Value → Shared → Prop} {Q : Unit → Shared → Prop}
theorem nats_set (b : Array UInt8) (k : Nat) (c : UInt8) : nats (b.setIfInBounds k c) = (nats b).set k c.toNat := by
  unfold nats; rw [Array.toList_setIfInBounds, List.map_set]
theorem byte_of {x : Int} (h : isByte x) : (x.toNat.toUInt8).toNat = x.toNat := by
  have : x.toNat < 256 := by obtain ⟨h1, h2⟩ := h; omega
  simp [Nat.toUInt8, UInt8.toNat_ofNat_of_lt' this]
theorem set_bytes {a : Addr} {l : List Nat} {k x : Int} {t u : Tok} {j : Nat} (ob : ObjIs s.heap a (.bytes l)) (hz : l.length ≤ SZ) (hb : isByte x) (hj : pidx k l.length = some j)
    (h : ∀ h', ObjIs h' a (.bytes (l.set j x.toNat)) → Heap.SameBut a s.heap h' → Q () { s with heap := h' }) : wpAny (model prog w) A (setItem (.ref a) (.int k t) (.int x u)) Q E s := by
  refine bc fun no => ?_
  obtain ⟨b, e, rfl⟩ := ob
  refine no ?_
  rw [nats_length] at hz hj
  obtain ⟨h1, h2, h3, h4⟩ := pidx_some hj
  unfold SZ at hz
  unfold setItem
  refine wpAny_holding ?_
  refine wpAny_bind (wpAny_sequenceKey (ba_typeIs e) (by decide) ?_)
  refine wpAny_bind (wpAny_callSpecial?_slot (name := Str.ofString "__setitem__") (ba_typeIs e) ba_slot_setitem
    (wpAny_call_entry ba_slot_setitem (ba_typeIs e) ba_entry_setitem ?_ (ba_args_setitem _ _ _)))
  unfold Builtin.«bytearray.__setitem__»
  dsimp only
  rw [if_neg (by decide)]
  have f1 := AutoSeq1.idx_int
  have hf : Builtin.Bytes.fitsIndex k = true := by simp [Builtin.Bytes.fitsIndex]; omega
  refine wpAny_bind (m := Builtin.Bytes.subscript? (.int k t)) ?_
  unfold Builtin.Bytes.subscript?
  refine wpAny_bind (wpAny_specialOf (T := "int") (typeIs_int s k t) int_index ?_)
  dsimp only
  refine wpAny_bind (wpAny_of_eq (a := k) rfl ?_)
  rw [if_neg (by rw [hf]; decide)]
  refine wpAny_pure ?_
  refine wpAny_bind (m := Builtin.Bytes.byteValue (.int x u)) ?_
  unfold Builtin.Bytes.byteValue
  refine wpAny_bind (wpAny_of_eq (a := x) rfl ?_)
  obtain ⟨hb1, hb2⟩ := id hb
  rw [if_neg (by simp; omega)]
  refine wpAny_pure ?_
  refine wpAny_bind (ba_payload e ?_)
  rw [h1]
  refine wpAny_bind (ba_write (f := (·.setIfInBounds j x.toNat.toUInt8)) e (by simp [sizeLine]; omega) fun h' e' hs => ?_)
  refine wpAny_pure ⟨_, rfl, wpAny_pure (h h' (obj_bytes e' ?_) hs)⟩
  rw [nats_set, byte_of hb]
theorem intsAre_set : ∀ {vs : List Value} {l : List Int}, IntsAre vs l → ∀ (j : Nat) (x : Int) (t : Tok), IntsAre (vs.set j (.int x t)) (l.set j x)
  | _, _, .nil, _, _, _ => by simpa using IntsAre.nil
  | _, _, .cons n t r, 0, x, u => .cons x u r
  | _, _, .cons n t r, j + 1, x, u => .cons n t (intsAre_set r j x u)
theorem mapSeq_same (its ys : Array Value) (n : Nat) (f : Array Value → Array Value) (e : f its = ys) : ∃ m, Obj.mapSeq f { cls := .type "list", data := .seq its n } = { cls := .type "list", data := .seq ys m } := by
  subst e; exact ⟨_, rfl⟩
theorem set_nums {a : Addr} {l : List Int} {k x : Int} {t u : Tok} {j : Nat} (ob : ObjIs s.heap a (.nums l)) (hz : l.length ≤ SZ) (hk : 0 ≤ k) (hj : pidx k l.length = some j)
    (h : ∀ h', ObjIs h' a (.nums (l.set j x)) → Heap.SameBut a s.heap h' → Q () { s with heap := h' }) : wpAny (model prog w) A (setItem (.ref a) (.int k t) (.int x u)) Q E s := by
  obtain ⟨vs, ⟨n, e⟩, hi⟩ := ob
  have hlen := hi.length
  obtain ⟨h1, h2, h3, h4⟩ := pidx_some hj
  unfold SZ at hz
  have hl : s.heap.IsList a vs.toArray := ⟨_, e, rfl, n, rfl⟩
  unfold setItem
  refine wpAny_holding ?_
  refine wpAny_bind (wpAny_sequenceKey hl.typeIs (by decide) ?_)
  refine wpAny_bind (wpAny_callSpecial?_slot (name := Str.ofString "__setitem__") hl.typeIs slot_list_setitem
    (wpAny_call_entry slot_list_setitem hl.typeIs entry_list_setitem ?_ (args_list_setitem _ _ _)))
  show wpAny _ _ (Builtin.List.listSubscript? (.int k t) >>= _) _ _ s
  refine wpAny_bind (wpAny_listSubscript_int (fitsIndex_of hk (by omega)) ?_)
  obtain ⟨j', rfl⟩ := Int.eq_ofNat_of_zero_le hk
  obtain rfl : j' = j := by rw [seqIndex_of hk h4] at h1; simpa using h1
  have hjj : j' < vs.toArray.size := by simp; omega
  have hx' : vs.toArray[j']? = some vs.toArray[j'] := Array.getElem?_eq_getElem hjj
  show wpAny _ _ ((seqItemAt a j' >>= fun r => pure (r.map (j', ·))) >>= _) _ _ s
  refine wpAny_bind (wpAny_bind (wpAny_seqItemAt e rfl (wpAny_pure ?_)))
  rw [hx']
  show wpAny _ _ (setSeqItemAt a j' (.int x u) >>= _) _ _ s
  refine wpAny_bind (wpAny_setSeqItemAt e rfl ?_)
  obtain ⟨m, em⟩ := mapSeq_same vs.toArray (vs.set j' (.int x u)).toArray n (·.setIfInBounds j' (.int x u)) (by simp)
  have hfin : ObjIs (s.heap.update a (Obj.mapSeq (·.setIfInBounds j' (.int x u)))) a (.nums (l.set j' x)) :=
    obj_nums ⟨m, by rw [Heap.get?_update_self _ e (by rw [em]; rfl), em]⟩ (intsAre_set hi j' x u)
  exact wpAny_pure ⟨.none, rfl, wpAny_pure (h _ hfin (Heap.SameBut.update ..))⟩
theorem intsAre_snoc {vs : List Value} {l : List Int} (h : IntsAre vs l) (x : Int) (t : Tok) : IntsAre (vs ++ [.int x t]) (l ++ [x]) := h.append (.cons x t .nil)
theorem app_ok {a : Addr} {l : List Int} {x : Int} {u : Tok} {Q : Value → Shared → Prop} (ob : ObjIs s.heap a (.nums l)) (hz : l.length < SZ)
    (h : ∀ h', ObjIs h' a (.nums (l ++ [x])) → Heap.SameBut a s.heap h' → Q .none { s with heap := h' }) : wpAny (model prog w) A (call (.builtin "list.append") [.ref a, .int x u]) Q E s := by
  obtain ⟨vs, p, hi⟩ := ob
  have hlen := hi.length
  unfold SZ at hz
  refine wpAny_list_append_plain (hsz := by simp only [List.size_toArray, sizeLine]; omega) p fun h' p' hs => h h' (obj_nums (vs := vs ++ [.int x u]) ?_ (intsAre_snoc hi x u)) hs
  simpa using p'
theorem pop_ok {a : Addr} {y : Int} {l : List Int} {u : Tok} {Q : Value → Shared → Prop} (ob : ObjIs s.heap a (.nums (y :: l))) (hz : l.length < SZ)
    (h : ∀ h' t, ObjIs h' a (.nums l) → Heap.SameBut a s.heap h' → Q (.int y t) { s with heap := h' }) : wpAny (model prog w) A (call (.builtin "list.pop") [.ref a, .int 0 u]) Q E s := by
  refine bc fun no => ?_
  obtain ⟨vs, ⟨n, e⟩, hi⟩ := ob
  refine no ?_
  unfold SZ at hz
  cases hi with
  | @cons _ t us _ r =>
    have hlen := r.length
    refine call_meets PySem.F.slot_list_pop ⟨_, e, rfl⟩ PySem.F.entry_list_pop (PySem.F.args_list_pop_2 _ _) (MeetsSeq.list_pop_at a _ n 0 u 0 (.int y t) (by decide) (by simp [seqIndex?]) (by simp) (by simp [sizeLine]; omega)) ⟨e, ?_⟩
    obtain ⟨m, em⟩ := mapSeq_same (Value.int y t :: us).toArray us.toArray n (fun xs => xs.eraseIdxIfInBounds 0) (by simp)
    refine h _ t (obj_nums ⟨m, ?_⟩ r) (Heap.SameBut.update ..)
    rw [Heap.get?_update_self _ e (by rw [em]; rfl), em]
theorem setS_bytes {a c sl : Addr} {l m : List Nat} {vl vu : Value} {lo hi : Option Int} (hac : a ≠ c) (ob : ObjIs s.heap a (.bytes l)) (ob' : ObjIs s.heap c (.bytes m)) (hs : s.heap.IsSliceOf sl vl vu .none) (pl : IsPart vl lo) (pu : IsPart vu hi)
    (hz : l.length ≤ SZ) (hz' : m.length ≤ SZ) (h0 : 0 ≤ lo.getD 0) (h1 : lo.getD 0 + m.length = hi.getD l.length) (h2 : hi.getD l.length ≤ l.length)
    (h : ∀ h', ObjIs h' a (.bytes (l.take (lo.getD 0).toNat ++ m ++ l.drop (hi.getD l.length).toNat)) → Heap.SameBut a s.heap h' → Q () { s with heap := h' }) :
    wpAny (model prog w) A (setItem (.ref a) (.ref sl) (.ref c)) Q E s := by
  obtain ⟨b, e, rfl⟩ := ob
  obtain ⟨d, e', rfl⟩ := ob'
  rw [nats_length] at hz hz'
  simp only [nats_length] at h1 h2
  obtain ⟨os, hos, hcs, hds⟩ := id hs
  have hTs : s.TypeIs (.ref sl) "slice" := ⟨os, hos, hcs⟩
  unfold SZ at hz hz'
  unfold setItem
  refine wpAny_holding ?_
  refine wpAny_bind (wpAny_sequenceKey (ba_typeIs e) (by decide) ?_)
  refine wpAny_bind (wpAny_callSpecial?_slot (name := Str.ofString "__setitem__") (ba_typeIs e) ba_slot_setitem
    (wpAny_call_entry ba_slot_setitem (ba_typeIs e) ba_entry_setitem ?_ (ba_args_setitem _ _ _)))
  unfold Builtin.«bytearray.__setitem__»
  dsimp only
  rw [if_neg (by decide)]
  refine wpAny_bind (m := Builtin.Bytes.subscript? (.ref sl)) ?_
  unfold Builtin.Bytes.subscript?
  refine wpAny_bind (wpAny_specialOf hTs slice_no_index (wpAny_pure ?_))
  dsimp only
  refine wpAny_bind (wpAny_typeOf hTs ?_)
  rw [if_neg (by decide)]
  refine wpAny_bind (sliceParts_ok hs pl pu .none (by decide) ?_)
  have hsame : Builtin.Bytes.sameRef (.ref a) (.ref c) = false := by simp [Builtin.Bytes.sameRef, hac]
  rw [hsame]
  refine wpAny_bind (wpAny_isInstance (ba_typeIs e') ba_sub ?_)
  dsimp only
  refine wpAny_bind (ba_payload e' ?_)
  refine wpAny_bind (ba_payload e ?_)
  refine wpAny_bind (wpAny_of_eq (sliceIndices_raw lo hi none b.size (by decide)) ?_)
  rw [sliceBounds_plain]
  have hsz := nats_length d
  have e1 : ((lo.elim 0 (clipAt b.size) : Nat) : Int) = lo.getD 0 := by
    induction lo with
    | none => rfl
    | some i =>
      have q : (some i : Option Int).getD 0 ≤ b.size := by omega
      simp only [Option.elim, Option.getD] at h0 q ⊢
      rw [clipAt_cast, if_neg (by omega)]; omega
  have e2 : ((hi.elim b.size (clipAt b.size) : Nat) : Int) = hi.getD b.size := by
    induction hi with
    | none => rfl
    | some i =>
      have q : 0 ≤ (some i : Option Int).getD (b.size : Int) := by omega
      simp only [Option.elim, Option.getD] at h2 q ⊢
      rw [clipAt_cast, if_neg (by omega)]; omega
  rw [e1, e2]
  dsimp only
  rw [if_pos (by decide)]
  refine wpAny_bind (wpAny_rule ?_)
  have hmax : max (lo.getD 0) (hi.getD (b.size : Int)) = hi.getD (b.size : Int) := by omega
  rw [hmax]
  rw [if_neg (by simp; omega)]
  refine wpAny_bind (ba_write (f := fun x => x.extract 0 (lo.getD 0).toNat ++ d ++ x.extract (hi.getD (b.size : Int)).toNat) e (by simp [sizeLine]; omega) fun h' e' hs => ?_)
  refine wpAny_pure ⟨_, rfl, wpAny_pure (h h' (obj_bytes e' ?_) hs)⟩
  simp only [nats, Array.toList_append, Array.toList_extract, List.map_append, List.length_map, Array.length_toList, List.extract_eq_take_drop, List.drop_zero, List.map_take, List.map_drop, Nat.sub_zero]
  congr 1
  rw [List.take_of_length_le (by simp)]
end
end Mine
end
section
open PySem PyProof.Rows
open Sem (wp)
open AutoSeq1 (wpAny_loadPart')
set_option maxRecDepth 100000
namespace Mine
local macro_rules | `(tactic| omega) => `(tactic| first | assumption | lia | omega +splitDisjunctions)
theorem bi_slot_next : Slot "bytearray_iterator" "__next__" "bytearray_iterator.__next__" :=
  .of (owner := "bytearray_iterator") (n := "__next__") (by rw [typeLookup_type, builtinLookup_eq_fast]; kernel_rfl) (by decide +kernel) (by decide +kernel) (by decide +kernel)
    (by first | exact .inl (by decide +kernel) | exact .inr (by decide +kernel)) (by rw [isSubtype_type]; kernel_rfl)
theorem bi_slot_self : Slot "bytearray_iterator" "__iter__" "bytearray_iterator.__iter__" :=
  .of (owner := "bytearray_iterator") (n := "__iter__") (by rw [typeLookup_type, builtinLookup_eq_fast]; kernel_rfl) (by decide +kernel) (by decide +kernel) (by decide +kernel)
    (by first | exact .inl (by decide +kernel) | exact .inr (by decide +kernel)) (by rw [isSubtype_type]; kernel_rfl)
theorem bi_entry_next : entryFor table "bytearray_iterator.__next__" = some Builtin.«bytearray_iterator.__next__» := entryFor_of_tree (by kernel_rfl)
theorem bi_entry_self : entryFor table "bytearray_iterator.__iter__" = some Builtin.«dict_keyiterator.__iter__» :=
  entryFor_alias (id' := "dict_keyiterator.__iter__") (by rw [fastTable_eq_tree]; kernel_rfl) (by decide +kernel) (by decide +kernel) (by rw [fastTable_eq_tree]; kernel_rfl)
theorem bi_args_next (a : Value) : argsOk "bytearray_iterator.__next__" ⟨[a], []⟩ := by unfold argsOk; kernel_rfl
theorem bi_args_self (a : Value) : argsOk "bytearray_iterator.__iter__" ⟨[a], []⟩ := by unfold argsOk; kernel_rfl
noncomputable def IsBaIter (h : Heap) (a l : Addr) (i : Nat) : Prop := h.get? a = some { cls := .type "bytearray_iterator", data := .fields #[.ref l, .int i 0] }
section
variable {prog : Program} {w : World} {A : Around} {s : Shared} {E : Value → Shared → Prop} {l : Addr} {b : Array UInt8}
theorem bi_typeIs {a : Addr} {i : Nat} (h : IsBaIter s.heap a l i) : s.TypeIs (.ref a) "bytearray_iterator" := ⟨_, h, rfl⟩
theorem pyIter_ba {Q : Value → Shared → Prop} (hl : s.heap.get? l = some (bytesObj b)) (hQ : Q (.ref s.heap.objs.size) { s with heap := s.heap.push { cls := .type "bytearray_iterator", data := .fields #[.ref l, .int 0 0] } }) : wpAny (model prog w) A (pyIter (.ref l)) Q E s := by
  refine wpAny_pyIter_slot (ba_typeIs hl) ba_slot_iter (wpAny_call_entry ba_slot_iter (ba_typeIs hl) ba_entry_iter ?_ (ba_args_iter _))
  show wpAny _ _ (do ret (← newFields "bytearray_iterator" [.ref l, rawInt 0])) _ _ s
  exact wpAny_bind (wpAny_newObj_type (wpAny_pure ⟨_, rfl, "bytearray_iterator", _, ⟨_, Heap.get?_push_size _ rfl, rfl⟩, bi_slot_next.lookup, hQ⟩))
theorem pyIter_bi {it : Addr} {i : Nat} {Q : Value → Shared → Prop} (hit : IsBaIter s.heap it l i) (h : Q (.ref it) s) : wpAny (model prog w) A (pyIter (.ref it)) Q E s := by
  refine wpAny_pyIter_slot (bi_typeIs hit) bi_slot_self (wpAny_call_entry bi_slot_self (bi_typeIs hit) bi_entry_self ?_ (bi_args_self _))
  show wpAny _ _ (ret (.ref it)) _ _ s
  exact wpAny_pure ⟨_, rfl, "bytearray_iterator", _, bi_typeIs hit, bi_slot_next.lookup, h⟩
theorem bi_item {it : Addr} {i : Nat} {c : UInt8} {Q : Option Value → Shared → Prop} (hit : IsBaIter s.heap it l i) (hl : s.heap.get? l = some (bytesObj b)) (hx : b[i]? = some c)
    (hQ : ∀ h', IsBaIter h' it l (i + 1) → Heap.SameBut it s.heap h' → Q (some (.int (c.toNat : Int) s.toks)) { s with heap := h', toks := s.toks + 1 }) : wpAny (model prog w) A (pyNext (.ref it)) Q E s := by
  unfold pyNext
  refine wpAny_bind (wpAny_attempt (wpAny_callSpecial?_slot (name := PySem.Str.ofString "__next__") (bi_typeIs hit) bi_slot_next
    (wpAny_call_entry bi_slot_next (bi_typeIs hit) bi_entry_next ?_ (bi_args_next _))))
  show wpAny _ _ (field (.ref it) 0 >>= _) _ _ s
  refine wpAny_bind (wpAny_field hit rfl (x := .ref l) rfl ?_)
  refine wpAny_bind (wpAny_load hl ?_)
  show wpAny _ _ (field (.ref it) 1 >>= _) _ _ s
  refine wpAny_bind (wpAny_field hit rfl (x := .int i 0) rfl ?_)
  simp only [Int.toNat_natCast, hx]
  refine wpAny_bind (wpAny_setField hit rfl (by simp) (wpAny_bind (wpAny_mkInt (wpAny_pure ⟨_, rfl, wpAny_pure (hQ _ ?_ (Heap.SameBut.update ..))⟩))))
  unfold IsBaIter
  rw [Heap.get?_update_self _ hit rfl]
  rfl
theorem bi_end {it : Addr} {i : Nat} {Q : Option Value → Shared → Prop} (hh : A.handled = none) (hit : IsBaIter s.heap it l i) (hl : s.heap.get? l = some (bytesObj b)) (hx : b[i]? = none)
    (hQ : ∀ h', Heap.ExtBut it s.heap h' → Q none { s with heap := h' }) : wpAny (model prog w) A (pyNext (.ref it)) Q E s := by
  unfold pyNext
  refine wpAny_bind (wpAny_attempt (wpAny_callSpecial?_slot (name := PySem.Str.ofString "__next__") (bi_typeIs hit) bi_slot_next
    (wpAny_call_entry bi_slot_next (bi_typeIs hit) bi_entry_next ?_ (bi_args_next _))))
  show wpAny _ _ (field (.ref it) 0 >>= _) _ _ s
  refine wpAny_bind (wpAny_field hit rfl (x := .ref l) rfl ?_)
  refine wpAny_bind (wpAny_load hl ?_)
  show wpAny _ _ (field (.ref it) 1 >>= _) _ _ s
  refine wpAny_bind (wpAny_field hit rfl (x := .int i 0) rfl ?_)
  simp only [Int.toNat_natCast, hx]
  refine wpAny_bind (wpAny_rule (wpAny_bind (wpAny_setField hit rfl (by simp) ?_)))
  refine wpAny_bind (wpAny_letGo ?_)
  show wpAny _ _ (newExc (.type "StopIteration") [] >>= _) _ _ _
  refine wpAny_bind ?_
  simp only [newExc, newTuple]
  refine wpAny_bind (wpAny_newObj_type ?_ (by size_fits))
  refine wpAny_bind (m := firstArgMember _ _) (wpAny_of_eq (a := Value.none) (by first | rfl | (simp only [firstArgMember]; rfl)) ?_)
  refine wpAny_newObj_type ?_ (by size_fits)
  simp only [raiseNew]
  refine wpAny_bind (wpAny_handled ?_)
  rw [show A.in1.handled = none from hh]
  refine wpAny_bind (wpAny_pure (wpAny_throw ?_))
  refine wpAny_bind (wpAny_isInstance (T := "StopIteration") (b := true) ⟨_, Heap.get?_push_size _ rfl, rfl⟩ isSubtype_stop ?_)
  exact wpAny_pure (hQ _ (((Heap.SameBut.update ..).extBut.push _).push _))
end
theorem walks_ba {prog : Program} {w : World} {A : Around} (hh : A.handled = none) (I l : Addr) (hne : l ≠ I) (b : Array UInt8) :
    Walks prog w A I [I, l] [I] b.size (fun i v => ∃ c u, b[i]? = some c ∧ v = .int (c.toNat : Int) u) (fun i h => IsBaIter h I l i ∧ h.get? l = some (bytesObj b)) where
  sub := fun c hc => by simp at hc; simp [hc]
  frame := fun _ _ _ st hk => ⟨hk I (by simp) _ st.1, hk l (by simp) _ st.2⟩
  item := fun i s Q E hi st hQ => by
    refine bi_item st.1 st.2 (c := b[i]) (by simp [hi]) fun h' hit' hs' => ?_
    exact hQ _ h' (s.toks + 1) ⟨_, _, by simp [hi], rfl⟩ ⟨hit', (hs'.2 l hne).trans st.2⟩ fun b o hb e => hs'.extBut b o (fun h => hb (by simp [h])) e
  done := fun s Q E st hQ => bi_end hh st.1 st.2 (by simp) fun h' he' => hQ h' s.toks fun b o hb e => he' b o (fun h => hb (by simp [h])) e
  self := fun _ _ _ _ st hQ => pyIter_bi st.1 hQ
section
variable {prog : Program} {w : World} {A : Around} {s : Shared} {E : Value → Shared → Prop} {l : Addr} {b : Array UInt8}
theorem call_len_ba {Q : Value → Shared → Prop} (hl : s.heap.get? l = some (bytesObj b)) (hz : b.size ≤ 4096) (h : Q (.int b.size (s.toks + 1)) { s with toks := s.toks + 1 + 1 }) : wpAny (model prog w) A (call (.builtin "len") [.ref l]) Q E s :=
  call_len_meets (n := b.size) (ba_typeIs hl) ba_slot_len ba_entry_len (ba_args_len _) (ba_lenM l b) (by omega) (by omega) (fun Q' hq => ⟨hl, hq⟩) h
theorem hint_ba {Q : Bool → Shared → Prop} (hl : s.heap.get? l = some (bytesObj b)) (hz : b.size ≤ 4096) (h : ∀ x tk, Q x { s with toks := tk }) : wpAny (model prog w) A (Builtin.List.listLengthHint (.ref l)) Q E s := by
  unfold Builtin.List.listLengthHint
  refine wpAny_bind (wpAny_specialOf (ba_typeIs hl) ba_slot_len.lookup ?_)
  generalize hid : ("bytearray.__len__" : String) = id0
  wp_delta
  rw [show splitId id0 = some ("bytearray", "__len__") from by subst hid; decide +kernel]
  subst hid
  refine wpAny_bind (wpAny_isInstance (ba_typeIs hl) ba_sub ?_)
  refine wpAny_ite_split (fun hab => absurd hab (by decide)) (fun _ => ?_)
  refine wpAny_ite_split (fun _ => ?_) (fun hab => absurd (by decide +kernel) hab)
  refine wpAny_bind (wpAny_typeOf (ba_typeIs hl) ?_)
  exact wpAny_pure (h false s.toks)
noncomputable abbrev BaItem (b : Array UInt8) : Nat → Value → Prop := fun i v => ∃ c u, b[i]? = some c ∧ v = .int (c.toNat : Int) u
theorem extend_ba {R : Result → Shared → Prop} (hh : A.handled = none) (hl : s.heap.get? l = some (bytesObj b)) (hz : b.size ≤ 4096) (S : Addr) (res : Value) (c₀ : Nat) (hS : s.heap.get? S = some { cls := .type "list", data := .seq #[] c₀ })
    (hR : ∀ h' tk acc' c', (∀ b o, b ≠ S → s.heap.get? b = some o → h'.get? b = some o) → h'.get? S = some { cls := .type "list", dict := none, data := .seq acc' c', slots := #[] } →
      ItemsOf (BaItem b) acc' b.size → R (.ok (.ret res)) { s with heap := h', toks := tk }) :
    wpAny (model prog w) A.in1 (Builtin.List.listExtendWith (.ref S) (.ref l) res)
      (fun fin s' => match fin with | .done f => R (.ok f) s' | .again c' => c'.quiet = true ∧ codeAny (model prog w) A c' R s') (fun e s' => R (.error e) s') s := by
  have hSl : S ≠ l := fun e => by rw [e, hl] at hS; simp [bytesObj] at hS
  have hSI : S ≠ s.heap.objs.size := Nat.ne_of_lt (Heap.lt_size hS)
  have hlI : l ≠ s.heap.objs.size := Nat.ne_of_lt (Heap.lt_size hl)
  have hSf : S ∉ [s.heap.objs.size, l] := fun hm => by
    rcases List.mem_cons.mp hm with e | hm
    · exact hSI e
    · exact hSl (List.mem_singleton.mp hm)
  have W := (walks_ba (prog := prog) (w := w) (A := A.in1) hh s.heap.objs.size l hlI b).toS
  have key : ∀ (h : Heap) (c₁ tk : Nat), IsBaIter h s.heap.objs.size l 0 → (∀ b o, b ≠ S → s.heap.get? b = some o → h.get? b = some o) →
      h.get? S = some { cls := .type "list", data := .seq #[] c₁ } → codeAny (model prog w) A (.builtin "list.extend.loop" ⟨[.ref S, .ref s.heap.objs.size, res], []⟩) R { s with heap := h, toks := tk } := by
    intro h c₁ tk hit hk hS₁
    refine codeAny_extend_loopS W (by rw [sizeLine_eq]; omega) S hSf res b.size 0 _ #[] c₁ rfl (Nat.zero_le _) ⟨hit, hk l _ (Ne.symm hSl) hl⟩ hS₁ (ItemsOf.nil _) fun s' acc' c' hm hS' hacc => ?_
    rw [Moved.eq_with hm]
    refine hR s'.heap s'.toks acc' c' (fun b o hb e => hm.heap b o (fun hmem => ?_) (hk b o hb e)) hS' hacc
    rcases List.mem_cons.mp hmem with e' | hmem
    · exact hb e'
    · exact absurd (Heap.lt_size e) (by rw [List.mem_singleton.mp hmem]; exact Nat.lt_irrefl _)
  unfold Builtin.List.listExtendWith
  refine wpAny_bind (wpAny_typeOf (ba_typeIs hl) ?_)
  have h1 : Builtin.List.listSameRef (.ref S) (.ref l) = false := by simp [Builtin.List.listSameRef, hSl]
  have h2 : (Value.type "bytearray" == Value.type "list") = false := by decide
  have h3 : (Value.type "bytearray" == Value.type "tuple") = false := by decide
  simp only [h1, h2, h3, Bool.or_false, Bool.false_eq_true, if_false]
  refine wpAny_bind (pyIter_ba hl ?_)
  refine wpAny_bind (wpAny_holding (hint_ba (Heap.get?_push_of_some _ hl) hz fun x tk => ?_))
  have hit₁ : IsBaIter (s.heap.push { cls := .type "bytearray_iterator", data := .fields #[.ref l, .int 0 0] }) s.heap.objs.size l 0 := Heap.get?_push_size _ rfl
  have hS₁ := Heap.get?_push_of_some { cls := .type "bytearray_iterator", data := .fields #[.ref l, .int 0 0] } hS
  refine wpAny_ite_split (fun _ => ?_) (fun _ => wpAny_pure ⟨plainId_quiet F.plain_extend_loop _, key _ c₀ _ hit₁ (fun b o _ e => Heap.get?_push_of_some _ e) hS₁⟩)
  refine wpAny_bind (wpAny_rule ?_)
  refine wpAny_bind ?_
  show wpAny _ _ (updateSeq S (·.push .none) >>= fun _ => updateSeq S (·.pop)) _ _ _
  refine wpAny_bind (wpAny_updateSeq hS₁ rfl ?_)
  have hS₂ := Heap.get?_update_self (Obj.mapSeq (·.push Value.none)) hS₁ rfl
  refine wpAny_updateSeq (hz := by seq_fits) hS₂ rfl ?_
  have hS₃ := Heap.get?_update_self (Obj.mapSeq (·.pop)) hS₂ rfl
  refine wpAny_pure ⟨plainId_quiet F.plain_extend_loop _, key _ _ _ ?_ (fun b o hb e => ?_) hS₃⟩
  · exact (Heap.get?_update_other _ _ hSI).trans ((Heap.get?_update_other _ _ hSI).trans hit₁)
  · exact (Heap.get?_update_other _ _ (Ne.symm hb)).trans ((Heap.get?_update_other _ _ (Ne.symm hb)).trans (Heap.get?_push_of_some _ e))
theorem init_ba {R : Result → Shared → Prop} (hh : A.handled = none) (hl : s.heap.get? l = some (bytesObj b)) (hz : b.size ≤ 4096) (S : Addr) (hS : s.heap.get? S = some { cls := .type "list", data := .seq #[] })
    (hR : ∀ h' tk acc' c', (∀ b o, b ≠ S → s.heap.get? b = some o → h'.get? b = some o) → h'.get? S = some { cls := .type "list", dict := none, data := .seq acc' c', slots := #[] } →
      ItemsOf (BaItem b) acc' b.size → R (.ok (.ret .none)) { s with heap := h', toks := tk }) :
    wpAny (model prog w) A.in1 (Builtin.«list.__init__» ⟨[.ref S, .ref l], []⟩)
      (fun fin s' => match fin with | .done f => R (.ok f) s' | .again c' => c'.quiet = true ∧ codeAny (model prog w) A c' R s') (fun e s' => R (.error e) s') s := by
  have hSl : S ≠ l := fun e => by rw [e, hl] at hS; simp [bytesObj] at hS
  show wpAny _ _ (do let old ← Builtin.List.listItems (.ref S); Builtin.List.listUpdate (.ref S) (fun _ => #[]); letGo old.toList.reverse; Builtin.List.listExtendWith (.ref S) (.ref l) .none) _ _ s
  refine wpAny_bind ?_
  unfold Builtin.List.listItems
  refine wpAny_bind (wpAny_seqItems hS rfl (wpAny_pure ?_))
  show wpAny _ _ (updateSeq S (fun _ => #[]) >>= fun _ => letGo (#[] : Array Value).toList.reverse >>= fun _ => Builtin.List.listExtendWith (.ref S) (.ref l) .none) _ _ s
  refine wpAny_bind (wpAny_updateSeq hS rfl ?_)
  have hS₂ := Heap.get?_update_self (Obj.mapSeq (fun _ => (#[] : Array Value))) hS rfl
  have oth : ∀ b o, b ≠ S → s.heap.get? b = some o → (s.heap.update S (Obj.mapSeq (fun _ => (#[] : Array Value)))).get? b = some o :=
    fun b o hb e => (Heap.get?_update_other _ _ (Ne.symm hb)).trans e
  refine wpAny_bind (wpAny_letGo ?_)
  refine extend_ba hh (oth l _ (Ne.symm hSl) hl) hz S .none _ hS₂ fun h' tk acc' c' hk hS' hacc => ?_
  exact hR h' tk acc' c' (fun b o hb e => hk b o hb (oth b o hb e)) hS' hacc
theorem call_list_ba {Q : Value → Shared → Prop} (hh : A.handled = none) (hl : s.heap.get? l = some (bytesObj b)) (hz : b.size ≤ 4096)
    (hQ : ∀ h' tk acc' c', (∀ b o, s.heap.get? b = some o → h'.get? b = some o) →
      h'.get? s.heap.objs.size = some { cls := .type "list", dict := none, data := .seq acc' c', slots := #[] } → ItemsOf (BaItem b) acc' b.size → Q (.ref s.heap.objs.size) { s with heap := h', toks := tk }) :
    wpAny (model prog w) A (call (.type "list") [.ref l]) Q E s := by
  refine callType_codes (Q₁ := fun obj s₁ => obj = .ref s.heap.objs.size ∧ s₁ = { s with heap := s.heap.push { cls := .type "list", data := .seq #[] } }) F.called_list (F.typeCall_list_1 _) F.entry_list_init
    (code_list_new _ ⟨rfl, rfl⟩) fun obj s₁ h₁ => ?_
  obtain ⟨rfl, rfl⟩ := h₁
  have hS : (s.heap.push { cls := .type "list", data := .seq #[] }).get? s.heap.objs.size = some { cls := .type "list", data := .seq #[] } := Heap.get?_push_size _ rfl
  refine ⟨⟨_, hS, rfl⟩, F.args_list_init_2 _ _, init_ba (A := A.in1) hh (Heap.get?_push_of_some _ hl) hz _ hS fun h' tk acc' c' hk hS' hacc => ?_⟩
  exact ⟨rfl, hQ h' tk acc' c' (fun b o e => hk b o (Nat.ne_of_lt (Heap.lt_size e)) (Heap.get?_push_of_some _ e)) hS' hacc⟩
theorem ints_of_get : ∀ (vs : List Value) (l : List Int), vs.length = l.length → (∀ (i : Nat) x, l[i]? = some x → ∃ t, vs[i]? = some (.int x t)) → IntsAre vs l
  | [], [], _, _ => .nil
  | [], _ :: _, h, _ => by simp at h
  | _ :: _, [], h, _ => by simp at h
  | v :: vs, x :: l, h, hg => by
    obtain ⟨t, e⟩ := hg 0 x rfl
    simp at e; subst e
    exact .cons x t (ints_of_get vs l (by simpa using h) fun i y hy => by simpa using hg (i + 1) y (by simpa using hy))
theorem list_bytes_ok {φ : List Addr} {hp : List O} {Q : QE} {a : Addr} {l : List Nat} {n : Nat} (R : Room n A) (H : HeapRep φ hp s.heap) (x : ObjIs s.heap a (.bytes l)) (hz : l.length ≤ SZ) (q : Q (.ref hp.length) (hp ++ [.nums (l.map Int.ofNat)])) :
    wpAny (model prog w) A (call (.type "list") [.ref a]) (EPost φ s Q) No s := by
  refine bc fun no => ?_
  obtain ⟨b, e, rfl⟩ := x
  refine no ?_
  rw [nats_length] at hz
  unfold SZ at hz
  refine call_list_ba R.handled e hz fun h' tk acc' c' k e' hacc => ?_
  refine EPost.made (s' := { s with heap := h', toks := tk }) H k rfl rfl (fresh_size _) (obj_nums (vs := acc'.toList) ⟨c', e'⟩ ?_) q
  refine ints_of_get _ _ (by simp [hacc.1, nats]) fun i x hx => ?_
  simp only [nats, List.map_map, List.getElem?_map, Option.map_eq_some_iff, Array.getElem?_toList] at hx
  obtain ⟨c, hc, rfl⟩ := hx
  have hi : i < acc'.size := by
    rw [hacc.1]
    rcases Nat.lt_or_ge i b.size with h | h
    · exact h
    · rw [Array.getElem?_eq_none h] at hc; cases hc
  refine bc fun no => ?_
  obtain ⟨c', u, h1, h2⟩ := hacc.2 i acc'[i] (Array.getElem?_eq_getElem hi)
  refine no ?_
  obtain rfl : c = c' := Option.some.inj (hc.symm.trans h1)
  exact ⟨u, by simp [hi, h2]⟩
end
end Mine
end
section
open PySem PyProof.Rows
open Sem (wp)
namespace Mine
noncomputable def Reads (env : Env) (h : Heap) (x : Str) (v : Value) : Prop :=
  (env.kindOf x = some .local ∧ ∃ m, h.Ns env.locals m ∧ m x = some v) ∨ (env.kindOf x = some .cell ∧ ∃ c, env.cells.lookup x = some c ∧ h.IsCell c (some v))
theorem Reads.mono {env : Env} {h h' : Heap} {x : Str} {v : Value} (k : Keep h h') (r : Reads env h x v) : Reads env h' x v := by
  rcases r with ⟨a, m, n, e⟩ | ⟨a, c, n, e⟩
  · exact .inl ⟨a, m, n.keeps k, e⟩
  · exact .inr ⟨a, c, n, e.keeps k⟩
theorem Reads.load {M : Model} {A : Around} {s : Shared} {E : Value → Shared → Prop} {Q : Value → Shared → Prop} {env : Env} {x : Str} {v : Value} (hk : env.scope.kind = .function) (r : Reads env s.heap x v) (q : Q v s) : wpAny M A (loadName env x) Q E s := by
  rcases r with ⟨a, m, n, e⟩ | ⟨a, c, n, e⟩
  · exact wpAny_loadName_local hk a n e q
  · exact wpAny_loadName_cell hk a n e q
structure EnvS (T : Tx) (env : Env) : Prop where
  fn : env.scope.kind = .function
  gl : env.globals = mainGlobals
  bu : env.builtins = builtinsNs
  glob : ∀ x, T.sc.names.lookup x = some .globalImplicit → env.kindOf x = some .globalImplicit
  top : T.top = true → env.scope = T.sc ∧ ∀ x, T.sc.names.lookup x = some .cell → ∃ c, env.cells.lookup x = some c
noncomputable def LR (T : Tx) (env : Env) (φ : List Addr) (l : Loc) (h : Heap) : Prop :=
  ∀ k x v, T.ns[k]? = some (some x) → l k = some v → ∃ w, Rep φ v w ∧ Reads env h x w
structure Base (hb : Heap) (mg mb : Str → Option Value) : Prop where
  g : hb.Ns mainGlobals mg
  b : hb.Ns builtinsNs mb
  lim : hb.NoLimit
  bi : ∀ b x, x ∈ BI.names b → mg x = some b.val ∨ mg x = none ∧ mb x = some b.val
  rng : ∀ x ∈ rangeNames, mg x = some (.type "range") ∨ mg x = none ∧ mb x = some (.type "range")
  enm : ∀ x ∈ enumNames, mg x = some (.type "enumerate") ∨ mg x = none ∧ mb x = some (.type "enumerate")
noncomputable def Reps (φ : List Addr) : List V → List Value → Prop
  | [], [] => True
  | u :: us, v :: vs => Rep φ u v ∧ Reps φ us vs
  | _, _ => False
theorem Reps.mono {φ φ' : List Addr} (h : φ <+: φ') : ∀ {us : List V} {vs : List Value}, Reps φ us vs → Reps φ' us vs
  | [], [], _ => trivial
  | _ :: _, _ :: _, r => ⟨r.1.mono h, r.2.mono h⟩
  | [], _ :: _, r => r.elim
  | _ :: _, [], r => r.elim
theorem Reps.append {φ : List Addr} : ∀ {us us' : List V} {vs vs' : List Value}, Reps φ us vs → Reps φ us' vs' → Reps φ (us ++ us') (vs ++ vs')
  | [], _, [], _, _, r => r
  | _ :: _, _, _ :: _, _, a, r => ⟨a.1, a.2.append r⟩
  | [], _, _ :: _, _, a, _ => a.elim
  | _ :: _, _, [], _, a, _ => a.elim
theorem Reps.length {φ : List Addr} : ∀ {us : List V} {vs : List Value}, Reps φ us vs → us.length = vs.length
  | [], [], _ => rfl
  | _ :: _, _ :: _, r => by simp [Reps.length r.2]
  | [], _ :: _, r => r.elim
  | _ :: _, [], r => r.elim
noncomputable def ResRep (φ : List Addr) (h : Heap) : Res → Value → Prop
  | .one u, v => Rep φ u v
  | .many tup us, v => ∃ a vs, v = .ref a ∧ Reps φ us vs ∧ (match tup with
    | true => IsTup h a vs.toArray
    | false => h.IsList a vs.toArray)
inductive RPost (φ : List Addr) (s : Shared) (Q : Res → List O → Prop) (v : Value) (s' : Shared) : Prop
  | mk (φ' : List Addr) (hp' : List O) (r : Res) (x : Ext s s' φ φ') (h : HeapRep φ' hp' s'.heap) (y : ResRep φ' s'.heap r v) (q : Q r hp')
inductive LPost (φ : List Addr) (s : Shared) (Q : List V → List O → Prop) (vs : List Value) (s' : Shared) : Prop
  | mk (φ' : List Addr) (hp' : List O) (us : List V) (x : Ext s s' φ φ') (h : HeapRep φ' hp' s'.heap) (r : Reps φ' us vs) (q : Q us hp')
structure Wld where
  prog : Program
  w : World
  hb : Heap
  mg : Str → Option Value
  mb : Str → Option Value
  G : Fns
  gn : List Str
  gs : List V
  pc : List Bool
  n : Nat
noncomputable abbrev Wld.M (W : Wld) : Model := model W.prog W.w
noncomputable def Wld.GV (W : Wld) (φ : List Addr) : Prop := ∀ (g : Nat) x v, W.gn[g]? = some x → W.gs[g]? = some v → ∃ w, W.mg x = some w ∧ Rep φ v w
theorem Wld.GV.mono {W : Wld} {φ φ' : List Addr} (h : φ <+: φ') (r : W.GV φ) : W.GV φ' := fun g x v a b => by
  obtain ⟨w, e, r⟩ := r g x v a b
  exact ⟨w, e, r.mono h⟩
inductive FnOK (W : Wld) (k : Bool) (n : Nat) (C : CallForm) (tr : Spec) : Prop
  | mk (a : Addr) (o : Obj) (fd : FuncData) (m : W.mg C.name = some (.ref a)) (g : W.hb.get? a = some o) (d : o.data = .func fd)
    (h : ∀ A s φ hp us vs ws Q, Room n A → Keep W.hb s.heap → HeapRep φ hp s.heap → W.GV φ → Reps φ us (vs ++ ws) → ws.length = C.kws.length → tr us hp Q →
      codeK k W.M A (.call (.ref a) ⟨vs, C.kws.zip ws⟩) (fun f s' => ∃ v, f = .ret v ∧ RPost φ s Q v s') s)
structure Wld.Ok (W : Wld) : Prop where
  base : Base W.hb W.mg W.mb
  fns : ∀ (c : Nat) f, W.G[c]? = some f → FnOK W (!W.pc.getD c false) W.n f.1 f.2
structure Here (W : Wld) (T : Tx) (env : Env) (A : Around) (s : Shared) (φ : List Addr) (hp : List O) (l : Loc) : Prop where
  es : EnvS T env
  cf : T.cf = W.G.map (·.1)
  gn : T.gn = W.gn
  room : Room W.n A
  keep : Keep W.hb s.heap
  gv : W.GV φ
  heap : HeapRep φ hp s.heap
  loc : LR T env φ l s.heap
theorem LR.mono {T : Tx} {env : Env} {φ φ' : List Addr} {l : Loc} {h h' : Heap} (x : LR T env φ l h) (p : φ <+: φ') (k : Keep h h') : LR T env φ' l h' := fun i y v a b => by
  obtain ⟨w, r, e⟩ := x i y v a b
  exact ⟨w, r.mono p, e.mono k⟩
theorem Here.step {W : Wld} {T : Tx} {env : Env} {A : Around} {s s' : Shared} {φ φ' : List Addr} {hp hp' : List O} {l : Loc} (H : Here W T env A s φ hp l) (x : Ext s s' φ φ') (r : HeapRep φ' hp' s'.heap) : Here W T env A s' φ' hp' l :=
  ⟨H.es, H.cf, H.gn, H.room, fun b o e => x.keep b o (H.keep b o e), H.gv.mono x.pre, r, H.loc.mono x.pre x.keep⟩
theorem EPost.from {φ φ' : List Addr} {s s' s'' : Shared} {Q : QE} {w : Value} (x : Ext s s' φ φ') (p : EPost φ' s' Q w s'') : EPost φ s Q w s'' := by
  obtain ⟨φ2, hp2, u, e, h, r, q⟩ := p
  exact ⟨φ2, hp2, u, x.trans e, h, r, q⟩
theorem BPost.from {φ φ' : List Addr} {s s' s'' : Shared} {Q : Bool → List O → Prop} {w : Bool} (x : Ext s s' φ φ') (p : BPost φ' s' Q w s'') : BPost φ s Q w s'' := by
  obtain ⟨φ2, hp2, e, h, q⟩ := p
  exact ⟨φ2, hp2, x.trans e, h, q⟩
theorem LPost.from {φ φ' : List Addr} {s s' s'' : Shared} {Q : List V → List O → Prop} {w : List Value} (x : Ext s s' φ φ') (p : LPost φ' s' Q w s'') : LPost φ s Q w s'' := by
  obtain ⟨φ2, hp2, u, e, h, r, q⟩ := p
  exact ⟨φ2, hp2, u, x.trans e, h, r, q⟩
theorem RPost.from {φ φ' : List Addr} {s s' s'' : Shared} {Q : Res → List O → Prop} {w : Value} (x : Ext s s' φ φ') (p : RPost φ' s' Q w s'') : RPost φ s Q w s'' := by
  obtain ⟨φ2, hp2, u, e, h, r, q⟩ := p
  exact ⟨φ2, hp2, u, x.trans e, h, r, q⟩
section
variable {W : Wld} {T : Tx} {env : Env} {A : Around} {s : Shared} {φ : List Addr} {hp : List O} {l : Loc}
theorem Here.global (hW : W.Ok) (H : Here W T env A s φ hp l) {x : Str} {v : Value} {E : Value → Shared → Prop} {Q : Value → Shared → Prop} (hx : T.isGlob x = true) (hv : W.mg x = some v ∨ W.mg x = none ∧ W.mb x = some v) (q : Q v s) {pos : Pos} :
    wpAny W.M A (eval (.Name x pos) env) Q E s := by
  unfold Tx.isGlob at hx
  rw [Bool.and_eq_true] at hx
  have hk := H.es.glob x (by simpa using hx.1)
  refine wpAny_Name ?_ (by simpa using hx.2)
  rw [loadName_read H.es.fn hk]
  rcases hv with hv | ⟨h0, hv⟩
  · exact Calls.loadGlobal_global (mg := W.mg) (by rw [H.es.gl]; exact hW.base.g.keeps H.keep) hv q
  · exact Calls.loadGlobal_builtin (mg := W.mg) (mb := W.mb) (by rw [H.es.gl]; exact hW.base.g.keeps H.keep) h0 (by rw [H.es.bu]; exact hW.base.b.keeps H.keep) hv q
end
theorem codeK.weak {k : Bool} {M : Model} {A : Around} {c : Code} {R : Flow → Shared → Prop} {s : Shared} (h : codeK false M A c R s) : codeK k M A c R s := fun Γ p hc hΓ _ => h Γ p hc hΓ fun x => nomatch x
theorem codeK.lift {k j : Bool} {M : Model} {A : Around} {c : Code} {R : Flow → Shared → Prop} {s : Shared} (hj : j = true → k = true) (h : codeK j M A c R s) : codeK k M A c R s := by
  induction j with
  | false => exact h.weak
  | true => rw [hj rfl]; exact h
section
variable {k : Bool} {prog : Program} {w : World} {A : Around} {s : Shared} {env : Env}
theorem wpK.Subscript {value slice : Expr} {pos : Pos} {Q : Value → Shared → Prop}
    (h : wpK k (model prog w) A (eval value env) (fun o s₁ => wpK k (model prog w) A (eval slice env) (fun i s₂ => wpAny (model prog w) A (subscriptTail value slice o i) Q No s₂) s₁) s) :
    wpK k (model prog w) A (eval (.Subscript value slice pos) env) Q s := by
  rw [eval_Subscript]
  exact wpK.bind (h.mono fun o s₁ h₁ => wpK.bind (wpK.holding (h₁.mono fun i s₂ h₂ => wpK.bind (wpK.standAt (wpK.of_any h₂)))))
theorem wpK.CallName {x : Str} {p pos : Pos} {args : List Expr} {kws : List Keyword} {Q : Value → Shared → Prop}
    (h : wpK k (model prog w) A (eval (.Name x p) env) (fun f s₁ => wpK k (model prog w) A (callWith pos f [] (backTo pos (starEach args env)) (backToKw pos (keywordEach kws env))) Q s₁) s) :
    wpK k (model prog w) A (eval (.Call (.Name x p) args kws pos) env) Q s := by
  rw [arm_eval_Call_Name']
  exact wpK.bind h
end
end Mine
end
section
open PySem PyProof.Rows
open Sem (wp)
namespace Mine
theorem any_inv {α : Type} {o : Option α} {p : α → Bool} (h : o.any p = true) : ∃ a, o = some a ∧ p a = true := by
  induction o with
  | none => cases h
  | some a => exact ⟨a, rfl, h⟩
theorem and_inv {a b : Bool} (h : (a && b) = true) : a = true ∧ b = true := by
  rwa [Bool.and_eq_true] at h
theorem and3_inv {a b c : Bool} (h : (a && b && c) = true) : (a = true ∧ b = true) ∧ c = true := ⟨and_inv (and_inv h).1, (and_inv h).2⟩
theorem and4_inv {a b c d : Bool} (h : (a && b && c && d) = true) : ((a = true ∧ b = true) ∧ c = true) ∧ d = true := ⟨and3_inv (and_inv h).1, (and_inv h).2⟩
theorem and5_inv {a b c d e : Bool} (h : (a && b && c && d && e) = true) : (((a = true ∧ b = true) ∧ c = true) ∧ d = true) ∧ e = true := ⟨and4_inv (and_inv h).1, (and_inv h).2⟩
theorem one_inv {α : Type} {l : List α} {a : α} (h : one? l = some a) : l = [a] := by
  match l, h with
  | [_], h => cases h; rfl
theorem head_inv {α : Type} {l : List α} {a : α} (h : l.head? = some a) : l = a :: l.tail := by
  induction l with
  | nil => cases h
  | cons => cases h; rfl
theorem empty_inv {α : Type} {l : List α} (h : l.isEmpty = true) : l = [] := by
  induction l with
  | nil => rfl
  | cons => cases h
theorem some_inv {α : Type} {o : Option α} (h : o.isSome = true) : ∃ a, o = some a := by
  induction o with
  | none => cases h
  | some a => exact ⟨a, rfl⟩
theorem sat_inv {α : Type} {o : Option α} {P : α → Prop} {r : α} (s : o.elim True P) (h : o = some r) : P r := by subst h; exact s
theorem asName_sat (e : Expr) : (asName e).elim True fun r => e = .Name r.1 r.2 := by
  induction e using Expr.casesOn with
  | Name => exact rfl
  | _ => exact True.intro
theorem asName_inv {e : Expr} {r : Str × Pos} (h : asName e = some r) : e = .Name r.1 r.2 := (sat_inv (asName_sat e) h :)
theorem asBin_sat (e : Expr) : (asBin e).elim True fun r => ∃ p, e = .BinOp r.1 r.2.1 r.2.2 p := by
  induction e using Expr.casesOn with
  | BinOp => exact ⟨_, rfl⟩
  | _ => exact True.intro
theorem asBin_inv {e : Expr} {r : Expr × Operator × Expr} (h : asBin e = some r) : ∃ p, e = .BinOp r.1 r.2.1 r.2.2 p := (sat_inv (asBin_sat e) h :)
theorem asIte_sat (e : Expr) : (asIte e).elim True fun r => ∃ p, e = .IfExp r.1 r.2.1 r.2.2 p := by
  induction e using Expr.casesOn with
  | IfExp => exact ⟨_, rfl⟩
  | _ => exact True.intro
theorem asIte_inv {e : Expr} {r : Expr × Expr × Expr} (h : asIte e = some r) : ∃ p, e = .IfExp r.1 r.2.1 r.2.2 p := (sat_inv (asIte_sat e) h :)
theorem asSub_sat (e : Expr) : (asSub e).elim True fun r => ∃ p, e = .Subscript r.1 r.2 p := by
  induction e using Expr.casesOn with
  | Subscript => exact ⟨_, rfl⟩
  | _ => exact True.intro
theorem asSub_inv {e : Expr} {r : Expr × Expr} (h : asSub e = some r) : ∃ p, e = .Subscript r.1 r.2 p := (sat_inv (asSub_sat e) h :)
theorem asSlice_sat (e : Expr) : (asSlice e).elim True fun r => ∃ p, e = .Slice r.1 r.2.1 r.2.2 p := by
  induction e using Expr.casesOn with
  | Slice => exact ⟨_, rfl⟩
  | _ => exact True.intro
theorem asSlice_inv {e : Expr} {r : Option Expr × Option Expr × Option Expr} (h : asSlice e = some r) : ∃ p, e = .Slice r.1 r.2.1 r.2.2 p := (sat_inv (asSlice_sat e) h :)
theorem asList_sat (e : Expr) : (asList e).elim True fun r => ∃ p, e = .List r p := by
  induction e using Expr.casesOn with
  | List => exact ⟨_, rfl⟩
  | _ => exact True.intro
theorem asList_inv {e : Expr} {r : List Expr} (h : asList e = some r) : ∃ p, e = .List r p := (sat_inv (asList_sat e) h :)
theorem asTuple_sat (e : Expr) : (asTuple e).elim True fun r => ∃ n p, e = .Tuple r n p := by
  induction e using Expr.casesOn with
  | Tuple => exact ⟨_, _, rfl⟩
  | _ => exact True.intro
theorem asTuple_inv {e : Expr} {r : List Expr} (h : asTuple e = some r) : ∃ n p, e = .Tuple r n p := (sat_inv (asTuple_sat e) h :)
theorem asCall_sat (e : Expr) : (asCall e).elim True fun r => e = .Call r.1 r.2.1 r.2.2.1 r.2.2.2 := by
  induction e using Expr.casesOn with
  | Call => exact rfl
  | _ => exact True.intro
theorem asCall_inv {e : Expr} {r : Expr × List Expr × List Keyword × Pos} (h : asCall e = some r) : e = .Call r.1 r.2.1 r.2.2.1 r.2.2.2 := (sat_inv (asCall_sat e) h :)
theorem asAttr_sat (e : Expr) : (asAttr e).elim True fun r => e = .Attribute r.1 r.2.1 r.2.2 := by
  induction e using Expr.casesOn with
  | Attribute => exact rfl
  | _ => exact True.intro
theorem asAttr_inv {e : Expr} {r : Expr × Str × Pos} (h : asAttr e = some r) : e = .Attribute r.1 r.2.1 r.2.2 := (sat_inv (asAttr_sat e) h :)
theorem asLC_sat (e : Expr) : (asLC e).elim True fun r => ∃ el g, e = .ListComp el g r.1 r.2 := by
  induction e using Expr.casesOn with
  | ListComp => exact ⟨_, _, rfl⟩
  | _ => exact True.intro
theorem asLC_inv {e : Expr} {r : Scope × Pos} (h : asLC e = some r) : ∃ el g, e = .ListComp el g r.1 r.2 := (sat_inv (asLC_sat e) h :)
theorem asAug_sat (e : Stmt) : (asAug e).elim True fun r => ∃ p, e = .AugAssign r.1 r.2.1 r.2.2 p := by
  induction e using Stmt.casesOn with
  | AugAssign => exact ⟨_, rfl⟩
  | _ => exact True.intro
theorem asAug_inv {e : Stmt} {r : Expr × Operator × Expr} (h : asAug e = some r) : ∃ p, e = .AugAssign r.1 r.2.1 r.2.2 p := (sat_inv (asAug_sat e) h :)
theorem asIf_sat (e : Stmt) : (asIf e).elim True fun r => ∃ p, e = .If r.1 r.2.1 r.2.2 p := by
  induction e using Stmt.casesOn with
  | If => exact ⟨_, rfl⟩
  | _ => exact True.intro
theorem asIf_inv {e : Stmt} {r : Expr × List Stmt × List Stmt} (h : asIf e = some r) : ∃ p, e = .If r.1 r.2.1 r.2.2 p := (sat_inv (asIf_sat e) h :)
theorem asDo_sat (e : Stmt) : (asDo e).elim True fun r => ∃ p, e = .Expr r p := by
  induction e using Stmt.casesOn with
  | Expr => exact ⟨_, rfl⟩
  | _ => exact True.intro
theorem asDo_inv {e : Stmt} {r : Expr} (h : asDo e = some r) : ∃ p, e = .Expr r p := (sat_inv (asDo_sat e) h :)
theorem asInt_sat (e : Expr) : (asInt e).elim True fun r => ∃ k p, e = .Constant (.int r) k p := by
  induction e using Expr.casesOn with
  | Constant =>
    rename_i c _ _
    induction c with
    | int => exact ⟨_, _, rfl⟩
    | _ => exact True.intro
  | _ => exact True.intro
theorem asInt_inv {e : Expr} {r : Int} (h : asInt e = some r) : ∃ k p, e = .Constant (.int r) k p := (sat_inv (asInt_sat e) h :)
theorem asNone_sat (e : Expr) : (asNone e).elim True fun r => ∃ k p, e = .Constant .none k p := by
  induction e using Expr.casesOn with
  | Constant =>
    rename_i c _ _
    induction c with
    | none => exact ⟨_, _, rfl⟩
    | _ => exact True.intro
  | _ => exact True.intro
theorem asNone_inv {e : Expr} {r : Unit} (h : asNone e = some r) : ∃ k p, e = .Constant .none k p := (sat_inv (asNone_sat e) h :)
theorem asTruth_sat (e : Expr) : (asTruth e).elim True fun r => ∃ k p, e = .Constant (.bool r) k p := by
  induction e using Expr.casesOn with
  | Constant =>
    rename_i c _ _
    induction c with
    | bool => exact ⟨_, _, rfl⟩
    | _ => exact True.intro
  | _ => exact True.intro
theorem asTruth_inv {e : Expr} {r : Bool} (h : asTruth e = some r) : ∃ k p, e = .Constant (.bool r) k p := (sat_inv (asTruth_sat e) h :)
theorem asNeg_sat (e : Expr) : (asNeg e).elim True fun r => ∃ p, e = .UnaryOp .USub r p := by
  induction e using Expr.casesOn with
  | UnaryOp =>
    rename_i o _ _
    induction o with
    | USub => exact ⟨_, rfl⟩
    | _ => exact True.intro
  | _ => exact True.intro
theorem asNeg_inv {e : Expr} {r : Expr} (h : asNeg e = some r) : ∃ p, e = .UnaryOp .USub r p := (sat_inv (asNeg_sat e) h :)
theorem asNot_sat (e : Expr) : (asNot e).elim True fun r => ∃ p, e = .UnaryOp .Not r p := by
  induction e using Expr.casesOn with
  | UnaryOp =>
    rename_i o _ _
    induction o with
    | Not => exact ⟨_, rfl⟩
    | _ => exact True.intro
  | _ => exact True.intro
theorem asNot_inv {e : Expr} {r : Expr} (h : asNot e = some r) : ∃ p, e = .UnaryOp .Not r p := (sat_inv (asNot_sat e) h :)
theorem asAnd_sat (e : Expr) : (asAnd e).elim True fun r => ∃ p, e = .BoolOp .And r p := by
  induction e using Expr.casesOn with
  | BoolOp =>
    rename_i o _ _
    induction o with
    | And => exact ⟨_, rfl⟩
    | _ => exact True.intro
  | _ => exact True.intro
theorem asAnd_inv {e : Expr} {r : List Expr} (h : asAnd e = some r) : ∃ p, e = .BoolOp .And r p := (sat_inv (asAnd_sat e) h :)
theorem asOr_sat (e : Expr) : (asOr e).elim True fun r => ∃ p, e = .BoolOp .Or r p := by
  induction e using Expr.casesOn with
  | BoolOp =>
    rename_i o _ _
    induction o with
    | Or => exact ⟨_, rfl⟩
    | _ => exact True.intro
  | _ => exact True.intro
theorem asOr_inv {e : Expr} {r : List Expr} (h : asOr e = some r) : ∃ p, e = .BoolOp .Or r p := (sat_inv (asOr_sat e) h :)
theorem asCmp_sat (e : Expr) : (asCmp e).elim True fun r => ∃ p, e = .Compare r.1 [r.2.1] [r.2.2] p := by
  induction e using Expr.casesOn with
  | Compare =>
    rename_i l os rs p
    rcases os with _ | ⟨o, _ | ⟨o2, os⟩⟩
    · exact True.intro
    · rcases rs with _ | ⟨r, _ | ⟨r2, rs⟩⟩
      · exact True.intro
      · exact ⟨_, rfl⟩
      · exact True.intro
    · exact True.intro
  | _ => exact True.intro
theorem asCmp_inv {e : Expr} {r : Expr × CmpOp × Expr} (h : asCmp e = some r) : ∃ p, e = .Compare r.1 [r.2.1] [r.2.2] p := (sat_inv (asCmp_sat e) h :)
theorem asComp_sat (e : Expr) : (asComp e).elim True fun r => ∃ px p, e = .ListComp r.1 [⟨.Name r.2.1 px, r.2.2.1, [], 0⟩] r.2.2.2 p := by
  induction e using Expr.casesOn with
  | ListComp =>
    rename_i el gs sc p
    rcases gs with _ | ⟨⟨x, a, is, n⟩, gs⟩
    · exact True.intro
    · rcases is with _ | ⟨i, is⟩
      · rcases n with (_ | n) | n
        · rcases gs with _ | ⟨g, gs⟩
          · induction x using Expr.casesOn with
            | Name => exact ⟨_, _, rfl⟩
            | _ => exact True.intro
          · exact True.intro
        · exact True.intro
        · exact True.intro
      · exact True.intro
  | _ => exact True.intro
theorem asComp_inv {e : Expr} {r : Expr × Str × Expr × Scope} (h : asComp e = some r) : ∃ px p, e = .ListComp r.1 [⟨.Name r.2.1 px, r.2.2.1, [], 0⟩] r.2.2.2 p := (sat_inv (asComp_sat e) h :)
theorem asAsg_sat (e : Stmt) : (asAsg e).elim True fun r => ∃ p, e = .Assign [r.1] r.2 p := by
  induction e using Stmt.casesOn with
  | Assign =>
    rename_i ts v p
    rcases ts with _ | ⟨t, _ | ⟨t2, ts⟩⟩
    · exact True.intro
    · exact ⟨_, rfl⟩
    · exact True.intro
  | _ => exact True.intro
theorem asAsg_inv {e : Stmt} {r : Expr × Expr} (h : asAsg e = some r) : ∃ p, e = .Assign [r.1] r.2 p := (sat_inv (asAsg_sat e) h :)
theorem asFor_sat (e : Stmt) : (asFor e).elim True fun r => ∃ p, e = .For r.1 r.2.1 r.2.2 [] p := by
  induction e using Stmt.casesOn with
  | For =>
    rename_i t i b els p
    rcases els with _ | ⟨s, els⟩
    · exact ⟨_, rfl⟩
    · exact True.intro
  | _ => exact True.intro
theorem asFor_inv {e : Stmt} {r : Expr × Expr × List Stmt} (h : asFor e = some r) : ∃ p, e = .For r.1 r.2.1 r.2.2 [] p := (sat_inv (asFor_sat e) h :)
theorem asWhile_sat (e : Stmt) : (asWhile e).elim True fun r => ∃ p, e = .While r.1 r.2 [] p := by
  induction e using Stmt.casesOn with
  | While =>
    rename_i t b els p
    rcases els with _ | ⟨s, els⟩
    · exact ⟨_, rfl⟩
    · exact True.intro
  | _ => exact True.intro
theorem asWhile_inv {e : Stmt} {r : Expr × List Stmt} (h : asWhile e = some r) : ∃ p, e = .While r.1 r.2 [] p := (sat_inv (asWhile_sat e) h :)
theorem asRet_sat (e : Stmt) : (asRet e).elim True fun r => ∃ p, e = .Return (some r) p := by
  induction e using Stmt.casesOn with
  | Return =>
    rename_i o p
    rcases o with _ | v
    · exact True.intro
    · exact ⟨_, rfl⟩
  | _ => exact True.intro
theorem asRet_inv {e : Stmt} {r : Expr} (h : asRet e = some r) : ∃ p, e = .Return (some r) p := (sat_inv (asRet_sat e) h :)
theorem asStar_inv {e : Expr} (h : (!asStar e) = true) : ∀ y p, e ≠ .Starred y p := by
  rintro y p rfl
  cases h
section
variable {T : Tx} {e : Expr}
theorem isX_loc {Z : Prop} {k : Nat} (h : isX T (.loc k) e = true) (kk : ∀ x p, e = .Name x p → T.isSlot k x = true → Z) : Z :=
  let ⟨x, hx, h⟩ := any_inv h
  kk _ _ (asName_inv hx) h
theorem isX_gv {Z : Prop} {k : Nat} (h : isX T (.gv k) e = true) (kk : ∀ x p, e = .Name x p → T.gn[k]? = some x → T.isGlob x = true → Z) : Z :=
  let ⟨x, hx, h⟩ := any_inv h
  kk _ _ (asName_inv hx) (eq_of_beq (and_inv h).1) ((and_inv h).2)
theorem isX_int {i : Int} (h : isX T (.int i) e = true) : ∃ k p, e = .Constant (.int i) k p := by
  obtain ⟨x, hx, g⟩ := any_inv h
  obtain rfl := eq_of_beq g
  exact asInt_inv hx
theorem isX_none (h : isX T .none e = true) : ∃ k p, e = .Constant .none k p :=
  let ⟨_, hx⟩ := some_inv h
  asNone_inv hx
theorem isX_bool {b : Bool} (h : isX T (.bool b) e = true) : ∃ k p, e = .Constant (.bool b) k p := by
  obtain ⟨x, hx, g⟩ := any_inv h
  obtain rfl := eq_of_beq g
  exact asTruth_inv hx
theorem isX_bin {Z : Prop} {op : Operator} {a b : X} (h : isX T (.bin op a b) e = true) (kk : ∀ l r p, e = .BinOp l op r p → isX T a l = true → isX T b r = true → Z) : Z := by
  obtain ⟨x, hx, g⟩ := any_inv h
  obtain ⟨p, e0⟩ := asBin_inv hx
  obtain rfl := eq_of_beq (and_inv (and_inv g).1).1
  exact kk _ _ _ e0 ((and_inv (and_inv g).1).2) ((and_inv g).2)
theorem isX_neg {Z : Prop} {a : X} (h : isX T (.neg a) e = true) (kk : ∀ x p, e = .UnaryOp .USub x p → isX T a x = true → Z) : Z :=
  let ⟨_, hx, h⟩ := any_inv h
  let ⟨_, e⟩ := asNeg_inv hx
  kk _ _ e h
theorem isX_not {Z : Prop} {a : X} (h : isX T (.not a) e = true) (kk : ∀ x p, e = .UnaryOp .Not x p → isX T a x = true → Z) : Z :=
  let ⟨_, hx, h⟩ := any_inv h
  let ⟨_, e⟩ := asNot_inv hx
  kk _ _ e h
theorem isX_cmp {Z : Prop} {op : CmpOp} {a b : X} (h : isX T (.cmp op a b) e = true) (kk : ∀ l r p, e = .Compare l [op] [r] p → behindInMarks op r = false → isX T a l = true → isX T b r = true → Z) : Z := by
  obtain ⟨x, hx, g⟩ := any_inv h
  obtain ⟨p, e0⟩ := asCmp_inv hx
  have h1 := and_inv (and_inv g).1
  obtain rfl := eq_of_beq (and_inv h1.1).1
  exact kk _ _ _ e0 (eq_of_beq (and_inv h1.1).2) h1.2 ((and_inv g).2)
theorem isX_and {Z : Prop} {xs : XL} (h : isX T (.and xs) e = true) (kk : ∀ es p, e = .BoolOp .And es p → isXL T xs es = true → Z) : Z :=
  let ⟨_, hx, h⟩ := any_inv h
  let ⟨_, e⟩ := asAnd_inv hx
  kk _ _ e h
theorem isX_or {Z : Prop} {xs : XL} (h : isX T (.or xs) e = true) (kk : ∀ es p, e = .BoolOp .Or es p → isXL T xs es = true → Z) : Z :=
  let ⟨_, hx, h⟩ := any_inv h
  let ⟨_, e⟩ := asOr_inv hx
  kk _ _ e h
theorem isX_ite {Z : Prop} {c a b : X} (h : isX T (.ite c a b) e = true) (kk : ∀ t x f p, e = .IfExp t x f p → isX T c t = true → isX T a x = true → isX T b f = true → Z) : Z :=
  let ⟨_, hx, h⟩ := any_inv h
  let ⟨_, e⟩ := asIte_inv hx
  kk _ _ _ _ e ((and_inv (and_inv h).1).1) ((and_inv (and_inv h).1).2) ((and_inv h).2)
theorem isX_idx {Z : Prop} {a i : X} (h : isX T (.idx a i) e = true) (kk : ∀ v s p, e = .Subscript v s p → isX T a v = true → notSlice s = true → isX T i s = true → Z) : Z :=
  let ⟨_, hx, h⟩ := any_inv h
  let ⟨_, e⟩ := asSub_inv hx
  kk _ _ _ e ((and_inv (and_inv h).1).1) ((and_inv (and_inv h).1).2) ((and_inv h).2)
theorem isX_slc {Z : Prop} {a lo hi st : X} (h : isX T (.slc a lo hi st) e = true) (kk : ∀ v l u s p q, e = .Subscript v (.Slice l u s p) q → isX T a v = true → isXO T lo l = true → isXO T hi u = true → isXO T st s = true → Z) : Z := by
  obtain ⟨x, hx, g⟩ := any_inv h
  obtain ⟨y, hy, g⟩ := any_inv g
  obtain ⟨p, e0⟩ := asSub_inv hx
  obtain ⟨q, e⟩ := asSlice_inv hy
  have h1 := and_inv (and_inv g).1
  exact kk _ _ _ _ _ _ (e0.trans <| by rw [e]) ((and_inv h1.1).1) ((and_inv h1.1).2) h1.2 ((and_inv g).2)
theorem isX_list {Z : Prop} {xs : XL} (h : isX T (.list xs) e = true) (kk : ∀ es p, e = .List es p → isXL T xs es = true → Z) : Z :=
  let ⟨_, hx, h⟩ := any_inv h
  let ⟨_, e⟩ := asList_inv hx
  kk _ _ e h
theorem isX_call {Z : Prop} {c : Nat} {pos kw : XL} (h : isX T (.call c pos kw) e = true) (kk : ∀ f p as ks q C, e = .Call (.Name f p) as ks q → T.cf[c]? = some C → C.name = f → T.isGlob f = true → isXL T pos as = true → isKW T kw ks C.kws = true → as.length + 2 * ks.length ≤ 30 → Z) : Z := by
  obtain ⟨x, hx, g⟩ := any_inv h
  obtain ⟨f, hf, g⟩ := any_inv g
  obtain ⟨C, hC, g⟩ := any_inv g
  have h1 := and_inv (and_inv g).1
  have h2 := and_inv h1.1
  exact kk _ _ _ _ _ C ((asCall_inv hx).trans (by rw [asName_inv hf])) hC (eq_of_beq (and_inv h2.1).1) ((and_inv h2.1).2) h2.2 h1.2 (of_decide_eq_true (and_inv g).2)
theorem isX_bi {Z : Prop} {b : BI} {xs : XL} (h : isX T (.bi b xs) e = true) (kk : ∀ f p as q, e = .Call (.Name f p) as [] q → f ∈ b.names → T.isGlob f = true → isXL T xs as = true → Z) : Z := by
  obtain ⟨x, hx, g⟩ := any_inv h
  obtain ⟨f, hf, g⟩ := any_inv g
  have h1 := and_inv (and_inv g).1
  exact kk _ _ _ _ ((asCall_inv hx).trans (by rw [asName_inv hf, empty_inv (and_inv h1.1).1])) (List.contains_iff_mem.mp (and_inv h1.1).2) h1.2 ((and_inv g).2)
theorem isX_compR {Z : Prop} {k : Nat} {a b : X} (h : isX T (.compR k a b) e = true) (kk : ∀ el x px f pf y pc sc pl, e = .ListComp el [⟨.Name x px, .Call (.Name f pf) [y] [] pc, [], 0⟩] sc pl → f ∈ rangeNames → T.isGlob f = true → isX T a y = true → okComp T sc k x = true → isX (T.inner sc k x) b el = true → Z) : Z := by
  obtain ⟨x, hx, g⟩ := any_inv h
  obtain ⟨c, hc, g⟩ := any_inv g
  obtain ⟨f, hf, g⟩ := any_inv g
  obtain ⟨z, hz, g⟩ := any_inv g
  obtain ⟨px, p, e0⟩ := asComp_inv hx
  have h1 := and_inv (and_inv g).1
  have h2 := and_inv h1.1
  have h3 := and_inv h2.1
  exact kk _ _ _ _ _ _ _ _ _ (e0.trans <| by rw [asCall_inv hc, asName_inv hf, one_inv hz, empty_inv (and_inv h3.1).1]) (List.contains_iff_mem.mp (and_inv h3.1).2) h3.2 h2.2 h1.2 (and_inv g).2
theorem isX_compL {Z : Prop} {k : Nat} {a b : X} (h : isX T (.compL k a b) e = true) (kk : ∀ el x px z pz sc pl, e = .ListComp el [⟨.Name x px, .Name z pz, [], 0⟩] sc pl → isX T a (.Name z pz) = true → okComp T sc k x = true → isX (T.inner sc k x) b el = true → Z) : Z := by
  obtain ⟨x, hx, g⟩ := any_inv h
  obtain ⟨px, p, e0⟩ := asComp_inv hx
  have h1 := and_inv (and_inv g).1
  obtain ⟨z, hz⟩ := some_inv (and_inv h1.1).1
  exact kk _ _ _ _ _ _ _ (e0.trans <| by rw [asName_inv hz]) (asName_inv hz ▸ (and_inv h1.1).2) h1.2 (and_inv g).2
theorem isX_star {x : X} {z : Expr} {p : Pos} (h : isX T x (.Starred z p) = true) : False := by cases x <;> cases h
theorem isXL_nil {es : List Expr} (h : isXL T .nil es = true) : es = [] := empty_inv h
theorem isXL_cons {Z : Prop} {x : X} {xs : XL} {es : List Expr} (h : isXL T (.cons x xs) es = true) (kk : ∀ e r, es = e :: r → (∀ y p, e ≠ .Starred y p) → isX T x e = true → isXL T xs r = true → Z) : Z :=
  let ⟨_, he, h⟩ := any_inv h
  kk _ _ (head_inv he) (asStar_inv (and_inv (and_inv h).1).1) ((and_inv (and_inv h).1).2) ((and_inv h).2)
theorem isKW_nil {ks : List Keyword} {ns : List Str} (h : isKW T .nil ks ns = true) : ks = [] ∧ ns = [] := ⟨empty_inv (and_inv h).1, empty_inv (and_inv h).2⟩
theorem isKW_cons {Z : Prop} {x : X} {xs : XL} {ks : List Keyword} {ns : List Str} (h : isKW T (.cons x xs) ks ns = true) (kk : ∀ n v p r ms, ks = ⟨some n, v, p⟩ :: r → ns = n :: ms → isX T x v = true → isKW T xs r ms = true → Z) : Z := by
  obtain ⟨⟨a, v, p⟩, hk, g⟩ := any_inv h
  obtain ⟨m, hm, g⟩ := any_inv g
  have h1 := and_inv (and_inv g).1
  obtain rfl := eq_of_beq h1.1
  exact kk _ _ _ _ _ (head_inv hk) (head_inv hm) h1.2 ((and_inv g).2)
theorem isXO_inv {x : X} {o : Option Expr} (h : isXO T x o = true) : (x = .none ∧ o = none) ∨ ∃ e, o = some e ∧ isX T x e = true := by
  induction o with
  | some e => exact .inr ⟨e, rfl, h⟩
  | none =>
    refine .inl ⟨?_, rfl⟩
    change isNoneX x = true at h
    cases x <;> first | rfl | exact nomatch h
end
section
variable {T : Tx} {s : Stmt}
theorem isS_assign {Z : Prop} {k : Nat} {e : X} (h : isS T (.assign k e) s = true) (kk : ∀ x px v p, s = .Assign [.Name x px] v p → T.isSlot k x = true → isComp e = false → isX T e v = true → Z) : Z := by
  obtain ⟨r, hr, g⟩ := any_inv h
  obtain ⟨x, hx, g⟩ := any_inv g
  obtain ⟨p, e0⟩ := asAsg_inv hr
  have h1 := and_inv (and_inv g).1
  exact kk _ _ _ _ (e0.trans <| by rw [asName_inv hx]) h1.1 (by simpa using h1.2) ((and_inv g).2)
theorem isS_assignC {Z : Prop} {k : Nat} {e : X} (h : isS T (.assignC k e) s = true) (kk : ∀ y py el gens sc pl p, s = .Assign [.Name y py] (.ListComp el gens sc pl) p → T.isSlot k y = true → isComp e = true → isX T e (.ListComp el gens sc pl) = true → T.sc.names.lookup y = some .local → (py.line == pl.line) = true → (!(sc.names.any fun (n, j) => n == y && (j == .local || j == .cell))) = true → Z) : Z := by
  obtain ⟨r, hr, g⟩ := any_inv h
  obtain ⟨x, hx, g⟩ := any_inv g
  obtain ⟨q, hq, g⟩ := any_inv g
  obtain ⟨p, e0⟩ := asAsg_inv hr
  obtain ⟨el, gen, e1⟩ := asLC_inv hq
  have h1 := and_inv (and_inv g).1
  have h2 := and_inv h1.1
  have h3 := and_inv h2.1
  exact kk _ _ _ _ _ _ _ (e0.trans <| by rw [asName_inv hx, e1]) ((and_inv h3.1).1) ((and_inv h3.1).2) (e1 ▸ h3.2) (eq_of_beq h2.2) h1.2 ((and_inv g).2)
theorem isS_unpack {Z : Prop} {ks : List Nat} {c : Nat} {pos kw : XL} (h : isS T (.unpack ks c pos kw) s = true) (kk : ∀ ts n pt v p, s = .Assign [.Tuple ts n pt] v p → isNames T ks ts = true → isX T (.call c pos kw) v = true → Z) : Z := by
  obtain ⟨r, hr, g⟩ := any_inv h
  obtain ⟨ts, hx, g⟩ := any_inv g
  obtain ⟨p, e0⟩ := asAsg_inv hr
  obtain ⟨n, pt, e⟩ := asTuple_inv hx
  exact kk _ _ _ _ _ (e0.trans <| by rw [e]) ((and_inv g).1) ((and_inv g).2)
theorem isS_setI {Z : Prop} {a i e : X} (h : isS T (.setI a i e) s = true) (kk : ∀ o sl ps v p, s = .Assign [.Subscript o sl ps] v p → isComp e = false → isX T e v = true → isX T a o = true → notSlice sl = true → isX T i sl = true → Z) : Z := by
  obtain ⟨r, hr, g⟩ := any_inv h
  obtain ⟨q, hx, g⟩ := any_inv g
  obtain ⟨p, e0⟩ := asAsg_inv hr
  obtain ⟨ps, e⟩ := asSub_inv hx
  have h1 := and_inv (and_inv g).1
  have h2 := and_inv h1.1
  exact kk _ _ _ _ _ (e0.trans <| by rw [e]) (by simpa using (and_inv h2.1).1) ((and_inv h2.1).2) h2.2 h1.2 ((and_inv g).2)
theorem isS_setS {Z : Prop} {a lo hi e : X} (h : isS T (.setS a lo hi e) s = true) (kk : ∀ o l h ps ps' v p, s = .Assign [.Subscript o (.Slice l h none ps) ps'] v p → isComp e = false → isX T e v = true → isX T a o = true → isXO T lo l = true → isXO T hi h = true → Z) : Z := by
  obtain ⟨r, hr, g⟩ := any_inv h
  obtain ⟨q, hx, g⟩ := any_inv g
  obtain ⟨⟨l, u, st⟩, hl, g⟩ := any_inv g
  obtain ⟨p, e0⟩ := asAsg_inv hr
  obtain ⟨ps, e⟩ := asSub_inv hx
  obtain ⟨ps', e'⟩ := asSlice_inv hl
  have h1 := and_inv (and_inv g).1
  have h2 := and_inv h1.1
  have h3 := and_inv h2.1
  have hst : st = none := Option.isNone_iff_eq_none.mp (and_inv h3.1).1
  exact kk _ _ _ _ _ _ _ (e0.trans <| by rw [e, e', hst]) (by simpa using (and_inv h3.1).2) h3.2 h2.2 h1.2 ((and_inv g).2)
theorem isS_augL {Z : Prop} {k : Nat} {op : Operator} {e : X} (h : isS T (.augL k op e) s = true) (kk : ∀ x px v p, s = .AugAssign (.Name x px) op v p → T.isSlot k x = true → isX T e v = true → Z) : Z := by
  obtain ⟨r, hr, g⟩ := any_inv h
  obtain ⟨x, hx, g⟩ := any_inv g
  obtain ⟨p, e0⟩ := asAug_inv hr
  have h1 := and_inv (and_inv g).1
  exact kk _ _ _ _ (e0.trans <| by rw [asName_inv hx, eq_of_beq h1.2]) h1.1 ((and_inv g).2)
theorem isS_augI {Z : Prop} {a i : X} {op : Operator} {e : X} (h : isS T (.augI a i op e) s = true) (kk : ∀ o sl ps v p, s = .AugAssign (.Subscript o sl ps) op v p → isX T a o = true → notSlice sl = true → isX T i sl = true → isX T e v = true → Z) : Z := by
  obtain ⟨r, hr, g⟩ := any_inv h
  obtain ⟨q, hx, g⟩ := any_inv g
  obtain ⟨p, e0⟩ := asAug_inv hr
  obtain ⟨ps, e⟩ := asSub_inv hx
  have h1 := and_inv (and_inv g).1
  have h2 := and_inv h1.1
  exact kk _ _ _ _ _ (e0.trans <| by rw [e, eq_of_beq h1.2]) ((and_inv h2.1).1) ((and_inv h2.1).2) h2.2 ((and_inv g).2)
theorem isS_forR {Z : Prop} {k : Nat} {two : Bool} {lo hi : X} {body : SL} (h : isS T (.forR k two lo hi body) s = true) (kk : ∀ x px f pf as pc b p, s = .For (.Name x px) (.Call (.Name f pf) as [] pc) b [] p → T.isSlot k x = true → f ∈ rangeNames → T.isGlob f = true → isRA T two lo hi as = true → isSL T body b = true → Z) : Z := by
  obtain ⟨r, hr, g⟩ := any_inv h
  obtain ⟨x, hx, g⟩ := any_inv g
  obtain ⟨c, hc, g⟩ := any_inv g
  obtain ⟨f, hf, g⟩ := any_inv g
  obtain ⟨p, e0⟩ := asFor_inv hr
  have h1 := and_inv (and_inv g).1
  have h2 := and_inv h1.1
  have h3 := and_inv h2.1
  exact kk _ _ _ _ _ _ _ _ (e0.trans <| by rw [asName_inv hx, asCall_inv hc, asName_inv hf, empty_inv (and_inv h3.1).1]) ((and_inv h3.1).2) (List.contains_iff_mem.mp h3.2) h2.2 h1.2 ((and_inv g).2)
theorem isS_forL {Z : Prop} {k : Nat} {e : X} {body : SL} (h : isS T (.forL k e body) s = true) (kk : ∀ x px z pz b p, s = .For (.Name x px) (.Name z pz) b [] p → T.isSlot k x = true → isX T e (.Name z pz) = true → isSL T body b = true → Z) : Z := by
  obtain ⟨r, hr, g⟩ := any_inv h
  obtain ⟨x, hx, g⟩ := any_inv g
  obtain ⟨p, e0⟩ := asFor_inv hr
  have h1 := and_inv (and_inv g).1
  obtain ⟨z, hz⟩ := some_inv (and_inv h1.1).1
  exact kk _ _ _ _ _ _ (e0.trans <| by rw [asName_inv hx, asName_inv hz]) ((and_inv h1.1).2) (asName_inv hz ▸ h1.2) ((and_inv g).2)
theorem isNames_nil {ts : List Expr} (h : isNames T [] ts = true) : ts = [] := empty_inv h
theorem isNames_cons {Z : Prop} {k : Nat} {ks : List Nat} {ts : List Expr} (h : isNames T (k :: ks) ts = true) (kk : ∀ x px r, ts = .Name x px :: r → T.isSlot k x = true → isNames T ks r = true → Z) : Z := by
  obtain ⟨e, he, g⟩ := any_inv h
  obtain ⟨x, hx, g⟩ := any_inv g
  exact kk x.1 x.2 ts.tail ((head_inv he).trans (by rw [asName_inv hx])) ((and_inv g).1) ((and_inv g).2)
theorem isS_forE {Z : Prop} {k1 k2 : Nat} {e : X} {body : SL} (h : isS T (.forE k1 k2 e body) s = true) (kk : ∀ x px y py nt pt f pf a pc b p, s = .For (.Tuple [.Name x px, .Name y py] nt pt) (.Call (.Name f pf) [a] [] pc) b [] p → T.isSlot k1 x = true → T.isSlot k2 y = true → f ∈ enumNames → T.isGlob f = true → isX T e a = true → isSL T body b = true → Z) : Z := by
  obtain ⟨r, hr, g⟩ := any_inv h
  obtain ⟨ts, hx, g⟩ := any_inv g
  obtain ⟨c, hc, g⟩ := any_inv g
  obtain ⟨f, hf, g⟩ := any_inv g
  obtain ⟨a, ha, g⟩ := any_inv g
  obtain ⟨p, e0⟩ := asFor_inv hr
  obtain ⟨n, pt, e1⟩ := asTuple_inv hx
  have h1 := and_inv (and_inv g).1
  have h2 := and_inv h1.1
  have h3 := and_inv h2.1
  have h4 := and_inv h3.1
  refine isNames_cons h4.2 fun x px r1 e2 s1 hn => isNames_cons hn fun y py r2 e3 s2 hn => ?_
  exact kk _ _ _ _ _ _ _ _ _ _ _ _ (e0.trans <| by rw [e1, e2, e3, isNames_nil hn, asCall_inv hc, asName_inv hf, one_inv ha, empty_inv h4.1]) s1 s2 (List.contains_iff_mem.mp h3.2) h2.2 h1.2 ((and_inv g).2)
theorem isS_whil {Z : Prop} {c : X} {body : SL} (h : isS T (.whil c body) s = true) (kk : ∀ t b p, s = .While t b [] p → isX T c t = true → isSL T body b = true → Z) : Z := by
  obtain ⟨r, hr, g⟩ := any_inv h
  obtain ⟨p, e0⟩ := asWhile_inv hr
  exact kk _ _ _ e0 ((and_inv g).1) ((and_inv g).2)
theorem isS_iff {Z : Prop} {c : X} {t e : SL} (h : isS T (.iff c t e) s = true) (kk : ∀ u b o p, s = .If u b o p → isX T c u = true → isSL T t b = true → isSL T e o = true → Z) : Z := by
  obtain ⟨r, hr, g⟩ := any_inv h
  obtain ⟨p, e0⟩ := asIf_inv hr
  have h1 := and_inv (and_inv g).1
  exact kk _ _ _ _ e0 h1.1 h1.2 ((and_inv g).2)
theorem isS_ret {Z : Prop} {e : X} (h : isS T (.ret e) s = true) (kk : ∀ v p, s = .Return (some v) p → isX T e v = true → Z) : Z := by
  obtain ⟨r, hr, g⟩ := any_inv h
  obtain ⟨p, e0⟩ := asRet_inv hr
  exact kk _ _ e0 g
theorem isS_retM {tup : Bool} {xs : XL} (h : isS T (.retM tup xs) s = true) : ∃ v p, s = .Return (some v) p ∧ ((∃ es n pt, tup = true ∧ v = .Tuple es n pt ∧ isXL T xs es = true) ∨ (∃ es pt, tup = false ∧ v = .List es pt ∧ isXL T xs es = true)) := by
  obtain ⟨r, hr, g⟩ := any_inv h
  obtain ⟨es, he, gg⟩ := any_inv g
  obtain ⟨p, rfl⟩ := asRet_inv hr
  refine ⟨_, _, rfl, ?_⟩
  induction tup with
  | true =>
    obtain ⟨n, pt, e⟩ := asTuple_inv he
    exact .inl ⟨_, _, _, rfl, e, gg⟩
  | false =>
    obtain ⟨pt, e⟩ := asList_inv he
    exact .inr ⟨_, _, rfl, e, gg⟩
theorem isS_app {Z : Prop} {a e : X} (h : isS T (.app a e) s = true) (kk : ∀ x px ap v cp p, s = .Expr (.Call (.Attribute (.Name x px) "append" ap) [v] [] cp) p → (ap.endLine == cp.line) = true → isX T a (.Name x px) = true → isX T e v = true → (∀ z q, v ≠ .Starred z q) → Z) : Z := by
  obtain ⟨d, hd, g⟩ := any_inv h
  obtain ⟨c, hc, g⟩ := any_inv g
  obtain ⟨r, hr, g⟩ := any_inv g
  obtain ⟨v, hv, g⟩ := any_inv g
  obtain ⟨p, e0⟩ := asDo_inv hd
  have h1 := and_inv (and_inv g).1
  have h2 := and_inv h1.1
  have h3 := and_inv h2.1
  have h4 := and_inv h3.1
  have h5 := and_inv h4.1
  obtain ⟨x, hx⟩ := some_inv h3.2
  exact kk _ _ _ _ _ _ (e0.trans <| by rw [asCall_inv hc, asAttr_inv hr, asName_inv hx, one_inv hv, empty_inv h5.1, eq_of_beq h5.2]) h4.2 (asName_inv hx ▸ h2.2) h1.2 (asStar_inv (and_inv g).2)
theorem isS_pop0 {Z : Prop} {a : X} (h : isS T (.pop0 a) s = true) (kk : ∀ x px ap n1 n2 cp p, s = .Expr (.Call (.Attribute (.Name x px) "pop" ap) [.Constant (.int 0) n1 n2] [] cp) p → (ap.endLine == cp.line) = true → isX T a (.Name x px) = true → Z) : Z := by
  obtain ⟨d, hd, g⟩ := any_inv h
  obtain ⟨c, hc, g⟩ := any_inv g
  obtain ⟨r, hr, g⟩ := any_inv g
  obtain ⟨v, hv, g⟩ := any_inv g
  obtain ⟨p, e0⟩ := asDo_inv hd
  have h1 := and_inv (and_inv g).1
  have h2 := and_inv h1.1
  have h3 := and_inv h2.1
  have h4 := and_inv h3.1
  obtain ⟨x, hx⟩ := some_inv h2.2
  obtain ⟨n1, n2, ei⟩ := asInt_inv (eq_of_beq (and_inv g).2)
  exact kk _ _ _ _ _ _ _ (e0.trans <| by rw [asCall_inv hc, asAttr_inv hr, asName_inv hx, one_inv hv, empty_inv h4.1, eq_of_beq h4.2, ei]) h3.2 (asName_inv hx ▸ h1.2)
theorem isSL_nil {ss : List Stmt} (h : isSL T .nil ss = true) : ss = [] := empty_inv h
theorem isSL_cons {Z : Prop} {x : S} {r : SL} {ss : List Stmt} (h : isSL T (.cons x r) ss = true) (kk : ∀ t ts, ss = t :: ts → isS T x t = true → isSL T r ts = true → Z) : Z :=
  let ⟨_, he, h⟩ := any_inv h
  kk _ _ (head_inv he) ((and_inv h).1) ((and_inv h).2)
end
end Mine
end
section
open PySem PyProof.Rows
open Sem (wp)
namespace Mine
local macro_rules | `(tactic| omega) => `(tactic| first | assumption | lia | omega +splitDisjunctions)
noncomputable def PX (W : Wld) (x : X) : Prop := ∀ k T env e A s φ hp l, isX T x e = true → okX W.pc k x = true → Here W T env A s φ hp l →
  (∀ Q, wX W.G W.gs x l hp Q → wpK k W.M A (eval e env) (EPost φ s Q) s) ∧
  (∀ Q, wC W.G W.gs x l hp Q → k = false → wpK false W.M A (isTrue e env (eval e env)) (BPost φ s Q) s)
noncomputable def PXL (W : Wld) (xs : XL) : Prop :=
  (∀ k T env es A s φ hp l pos, isXL T xs es = true → okXL W.pc k xs = true → Here W T env A s φ hp l →
    (∀ Q, wXL W.G W.gs xs l hp Q → wpK k W.M A (spliced (backTo pos (starEach es env))) (LPost φ s Q) s) ∧
    (∀ Q, wOr W.G W.gs xs l hp Q → k = false → wpK false W.M A (eval (.BoolOp .Or es pos) env) (EPost φ s Q) s) ∧
    (∀ Q, wCA W.G W.gs xs l hp Q → k = false → ∀ whole, wpK false W.M A (isTrue (.BoolOp .And es pos) env whole) (BPost φ s Q) s) ∧
    (∀ Q, wCO W.G W.gs xs l hp Q → k = false → ∀ whole, wpK false W.M A (isTrue (.BoolOp .Or es pos) env whole) (BPost φ s Q) s)) ∧
  (∀ k T env ks ns A s φ hp l pos, isKW T xs ks ns = true → okXL W.pc k xs = true → Here W T env A s φ hp l →
    ∀ Q, wXL W.G W.gs xs l hp Q → wpK k W.M A (evalAll ((backToKw pos (keywordEach ks env)).map (·.2))) (fun vs s' => vs.length = ns.length ∧ LPost φ s Q vs s') s)
theorem starEach_plain {e : Expr} {r : List Expr} {env : Env} (h : ∀ y p, e ≠ .Starred y p) : starEach (e :: r) env = (false, eval e env) :: starEach r env := by
  cases e <;> first | rfl | exact absurd rfl (h _ _)
theorem isXL_all {T : Tx} {env : Env} {pos : Pos} : ∀ {xs : XL} {es : List Expr}, isXL T xs es = true → (backTo pos (starEach es env)).all (fun x => !x.1) = true
  | .nil, es, h => by rw [isXL_nil h]; rfl
  | .cons x xs, es, h => by
    refine isXL_cons h ?_
    rintro e r rfl hs _ h2
    rw [starEach_plain hs]
    simpa [backTo] using isXL_all (env := env) (pos := pos) h2
theorem isXL_len {T : Tx} {env : Env} {pos : Pos} : ∀ {xs : XL} {es : List Expr}, isXL T xs es = true → (backTo pos (starEach es env)).length = es.length
  | .nil, es, h => by rw [isXL_nil h]; rfl
  | .cons x xs, es, h => by
    refine isXL_cons h ?_
    rintro e r rfl hs _ h2
    rw [starEach_plain hs]
    simpa [backTo] using isXL_len (env := env) (pos := pos) h2
theorem isKW_facts {T : Tx} {env : Env} {pos : Pos} : ∀ {xs : XL} {ks : List Keyword} {ns : List Str}, isKW T xs ks ns = true →
    (backToKw pos (keywordEach ks env)).all (·.1.isSome) = true ∧ (backToKw pos (keywordEach ks env)).length = ks.length ∧ (backToKw pos (keywordEach ks env)).filterMap (·.1) = ns
  | .nil, ks, ns, h => by obtain ⟨rfl, rfl⟩ := isKW_nil h; exact ⟨rfl, rfl, rfl⟩
  | .cons x xs, ks, ns, h => by
    refine isKW_cons h ?_
    rintro n v p r ms rfl rfl _ h2
    refine bc fun no => ?_
    obtain ⟨a, b, c⟩ := isKW_facts (env := env) (pos := pos) h2
    refine no ?_
    unfold backToKw at a b c ⊢
    simp only [keywordEach, List.map_cons, List.all_cons, List.length_cons, List.filterMap_cons, a, b, c, Option.isSome_some, Bool.and_self, and_self]
section
variable {W : Wld} (hW : W.Ok)
theorem plain_test {k : Bool} {A : Around} {env : Env} {e : Expr} {s : Shared} {φ : List Addr} {Q : Bool → List O → Prop} {x : X} {l : Loc} {hp : List O}
    (h : wpK false W.M A (eval e env) (EPost φ s (fun v hp1 => wTruth v hp1 Q)) s) (he : isTrue e env (eval e env) = (do let v ← eval e env; standAt e.pos; holding [v] (truthy v)) := by rfl) :
    wpK false W.M A (isTrue e env (eval e env)) (BPost φ s Q) s := by
  refine wpK.of_any (isTrue_plain ((h.mono fun v s1 h1 => ?_).any) he)
  obtain ⟨φ1, hp1, u, x1, H1, r1, q⟩ := h1
  exact wpAny_mono (truth_ok H1 r1 q) (fun b s2 h2 => h2.from x1) fun _ _ f => f
theorem px_loc (k : Nat) : PX W (.loc k) := by
  intro k' T env e A s φ hp l hi ho H
  refine isX_loc hi ?_
  rintro x p rfl hs
  unfold Tx.isSlot at hs
  rw [Bool.and_eq_true] at hs
  have main : ∀ (j : Bool) (Q : QE) v, l k = some v → Q v hp → wpK j W.M A (eval (.Name x p) env) (EPost φ s Q) s := fun j Q v hv q => by
    refine bc fun no => ?_
    obtain ⟨w, r, hr⟩ := H.loc k x v (by simpa using hs.1) hv
    refine no ?_
    exact wpK.of_any (wpAny_Name (hr.load H.es.fn ⟨φ, hp, v, .refl _ _, H.heap, r, q⟩) (by simpa using hs.2))
  refine ⟨fun Q h => ?_, fun Q h _ => ?_⟩
  · refine bc fun no => ?_
    obtain ⟨v, hv, h⟩ := slotK_inv (show slotK (l k) hp Q from h)
    refine no ?_
    exact main k' Q v hv h
  · obtain ⟨v, hv, h⟩ := slotK_inv (show slotK (l k) hp (fun v hp => wTruth v hp Q) from h)
    exact plain_test (k := false) (x := .loc k) (l := l) (hp := hp) (main false _ v hv h)
include hW in
theorem px_gv (g : Nat) : PX W (.gv g) := by
  intro k' T env e A s φ hp l hi ho H
  refine isX_gv hi ?_
  rintro x p rfl hg hs
  refine ⟨fun Q h => ?_, fun Q h _ => ?_⟩
  · obtain ⟨v, hv, h⟩ := slotK_inv (show slotK W.gs[g]? hp Q from h)
    obtain ⟨w, e1, r⟩ := H.gv g x v (by rw [← H.gn]; exact hg) hv
    exact wpK.of_any (H.global hW hs (.inl e1) ⟨φ, hp, v, .refl _ _, H.heap, r, h⟩)
  · exact False.elim h
theorem px_int (i : Int) : PX W (.int i) := by
  intro k' T env e A s φ hp l hi ho H
  obtain ⟨x, p, rfl⟩ := isX_int hi
  refine ⟨fun Q h => ?_, fun Q h _ => ?_⟩
  · skip
    exact wpK.of_any (wpAny_Constant_int (EPost.int H.heap h))
  · exact False.elim h
theorem px_none : PX W .none := by
  intro k' T env e A s φ hp l hi ho H
  obtain ⟨x, p, rfl⟩ := isX_none hi
  refine ⟨fun Q h => ?_, fun Q h _ => ?_⟩
  · skip
    exact wpK.of_any (wpAny_Constant_none ⟨φ, hp, .none, .refl _ _, H.heap, rfl, h⟩)
  · exact False.elim h
theorem px_bool (b : Bool) : PX W (.bool b) := by
  intro k' T env e A s φ hp l hi ho H
  obtain ⟨x, p, rfl⟩ := isX_bool hi
  refine ⟨fun Q h => ?_, fun Q h _ => ?_⟩
  · skip
    exact wpK.of_any (wpAny_Constant_bool ⟨φ, hp, .bool b, .refl _ _, H.heap, rfl, h⟩)
  · exact False.elim h
theorem px_bin (op : Operator) (a b : X) (ha : PX W a) (hb : PX W b) : PX W (.bin op a b) := by
  intro k T env e A s φ hp l hi ho H
  refine isX_bin hi ?_
  rintro x y p rfl h1 h2
  replace ho := and_inv ho
  have main : ∀ Q, (wX W.G W.gs a l hp fun u hp1 => wX W.G W.gs b l hp1 fun v hp2 => wBin op u v hp2 Q) → wpK k W.M A (eval (.BinOp x op y p) env) (EPost φ s Q) s := fun Q h => by
    refine wpK.BinOp (((ha k T env x A s φ hp l h1 ho.1 H).1 _ h).mono fun v1 s1 q1 => ?_)
    refine bc fun no => ?_
    obtain ⟨φ1, hp1, u, x1, H1, r1, q1⟩ := q1
    refine no ?_
    refine ((hb k T env y A s1 φ1 hp1 l h2 ho.2 (H.step x1 H1)).1 _ q1).mono fun v2 s2 q2 => ?_
    refine bc fun no => ?_
    obtain ⟨φ2, hp2, v, x2, H2, r2, q2⟩ := q2
    refine no ?_
    exact (wpK.of_any (bin_ok H2 (r1.mono x2.pre) r2 q2)).mono fun w3 s3 q3 => q3.from (x1.trans x2)
  refine ⟨fun Q h => ?_, fun Q h hk => ?_⟩
  · skip
    exact main Q h
  · subst hk
    skip
    exact plain_test (k := false) (x := .none) (l := l) (hp := hp) (main _ h)
theorem px_neg (a : X) (ha : PX W a) : PX W (.neg a) := by
  intro k T env e A s φ hp l hi ho H
  refine isX_neg hi ?_
  rintro x p rfl h1
  skip
  refine ⟨fun Q h => ?_, fun Q h _ => ?_⟩
  · skip
    refine wpK.of_any (UnaryOp_ ((((ha false T env x A s φ hp l h1 ho H).1 _ h).mono fun v1 s1 q1 => ?_).any))
    obtain ⟨φ1, hp1, u, x1, H1, r1, q1⟩ := q1
    induction u with
    | int i =>
      obtain ⟨t, rfl⟩ := r1
      exact PyProof.Rows.neg_int (EPost.from x1 (EPost.int H1 q1))
    | _ => exact q1.elim
  · exact False.elim h
theorem px_cmp (op : CmpOp) (a b : X) (ha : PX W a) (hb : PX W b) : PX W (.cmp op a b) := by
  intro k T env e A s φ hp l hi ho H
  refine isX_cmp hi ?_
  rintro x y p rfl hm h1 h2
  replace ho := and_inv ho
  have main : ∀ Q, (wX W.G W.gs a l hp fun u hp1 => wX W.G W.gs b l hp1 fun v hp2 => wCmp op u v hp2 Q) → wpAny W.M A (eval x env) (fun a s₁ => wpAny W.M A (eval y env) (fun b s₂ => wpAny W.M A (compareOp op a b) (EPost φ s Q) No s₂) No s₁) No s := fun Q h => by
    refine (((ha false T env x A s φ hp l h1 ho.1 H).1 _ h).mono fun v1 s1 q1 => ?_).any
    obtain ⟨φ1, hp1, u, x1, H1, r1, q1⟩ := q1
    refine (((hb false T env y A s1 φ1 hp1 l h2 ho.2 (H.step x1 H1)).1 _ q1).mono fun v2 s2 q2 => ?_).any
    refine bc fun no => ?_
    obtain ⟨φ2, hp2, v, x2, H2, r2, q2⟩ := q2
    refine no ?_
    exact wpAny_mono (cmp_ok H.room H2 (r1.mono x2.pre) r2 q2) (fun w3 s3 q3 => q3.from (x1.trans x2)) fun _ _ f => f
  refine ⟨fun Q h => ?_, fun Q h hk => ?_⟩
  · skip
    exact wpK.of_any (wpAny_Compare1 (main Q h) hm)
  · skip
    refine wpK.of_any (wpAny_isTrue_Compare1 (wpAny_mono (main _ h) (fun a s1 q1 => wpAny_mono q1 (fun b s2 q2 => wpAny_mono q2 (fun c s3 q3 => ?_) fun _ _ f => f) fun _ _ f => f) fun _ _ f => f) hm)
    refine bc fun no => ?_
    obtain ⟨φ1, hp1, u, x1, H1, r1, q⟩ := q3
    refine no ?_
    exact wpAny_mono (truth_ok H1 r1 q) (fun b s2 h2 => h2.from x1) fun _ _ f => f
theorem px_and (xs : XL) (h : PXL W xs) : PX W (.and xs) := by
  intro k T env e A s φ hp l hi ho H
  refine isX_and hi ?_
  rintro es p rfl h1
  skip
  refine ⟨fun Q q => ?_, fun Q q hk => ?_⟩
  · exact False.elim q
  · skip
    exact (h.1 false T env es A s φ hp l p h1 ho H).2.2.1 Q q rfl _
theorem px_or (xs : XL) (h : PXL W xs) : PX W (.or xs) := by
  intro k T env e A s φ hp l hi ho H
  refine isX_or hi ?_
  rintro es p rfl h1
  skip
  refine ⟨fun Q q => ?_, fun Q q hk => ?_⟩
  · skip
    exact ((h.1 false T env es A s φ hp l p h1 ho H).2.1 Q q rfl).weak
  · skip
    exact (h.1 false T env es A s φ hp l p h1 ho H).2.2.2 Q q rfl _
theorem px_not (a : X) (ha : PX W a) : PX W (.not a) := by
  intro k T env e A s φ hp l hi ho H
  refine isX_not hi ?_
  rintro x p rfl h1
  skip
  refine ⟨fun Q q => ?_, fun Q q hk => ?_⟩
  · exact False.elim q
  · skip
    refine wpK.of_any (isTrue_not ((((ha false T env x A s φ hp l h1 ho H).2 _ q rfl).mono fun b s1 q1 => ?_).any))
    obtain ⟨φ1, hp1, e, h, q⟩ := q1
    exact ⟨φ1, hp1, e, h, q⟩
theorem px_ite (c a b : X) (hc : PX W c) (ha : PX W a) (hb : PX W b) : PX W (.ite c a b) := by
  intro k T env e A s φ hp l hi ho H
  refine isX_ite hi ?_
  rintro t x y p rfl h0 h1 h2
  replace ho := and3_inv ho
  refine ⟨fun Q q => ?_, fun Q q hk => ?_⟩
  · skip
    refine wpK.of_any (IfExp_ ((((hc false T env t A s φ hp l h0 ho.1.1 H).2 _ q rfl).mono fun v s1 q1 => ?_).any))
    obtain ⟨φ1, hp1, x1, H1, q1⟩ := q1
    induction v with
    | true => exact ((((ha false T env x A s1 φ1 hp1 l h1 ho.1.2 (H.step x1 H1)).1 _ q1).mono fun _ _ z => z.from x1).any)
    | false => exact ((((hb false T env y A s1 φ1 hp1 l h2 ho.2 (H.step x1 H1)).1 _ q1).mono fun _ _ z => z.from x1).any)
  · exact False.elim q
theorem subscripted_plain {s : Expr} (h : notSlice s = true) (o i : Value) : subscripted s false o i = operate [o, i] (getItem o i) := by
  cases s <;> first | rfl | (cases h; done)
theorem px_idx (a i : X) (ha : PX W a) (hb : PX W i) : PX W (.idx a i) := by
  intro k T env e A s φ hp l hi ho H
  refine isX_idx hi ?_
  rintro x y p rfl h1 hn h2
  replace ho := and_inv ho
  refine ⟨fun Q q => ?_, fun Q q hk => ?_⟩
  · skip
    refine wpK.Subscript ((((ha false T env x A s φ hp l h1 ho.1 H).1 _ q).weak).mono fun v1 s1 q1 => ?_)
    obtain ⟨φ1, hp1, u, x1, H1, r1, q1⟩ := q1
    refine (((hb false T env y A s1 φ1 hp1 l h2 ho.2 (H.step x1 H1)).1 _ q1).weak).mono fun v2 s2 q2 => ?_
    obtain ⟨φ2, hp2, v, x2, H2, r2, q2⟩ := q2
    obtain ⟨a', T', id, rfl, hT, hl, hg⟩ := idx_ok (prog := W.prog) (w := W.w) (A := A) H2 (r1.mono x2.pre) r2 q2
    exact tail_any hT hl (wpAny_mono hg (fun _ _ z => z.from (x1.trans x2)) fun _ _ f => f) (subscripted_plain hn _ _)
  · exact False.elim q
theorem part_ok {x : X} (hx : PX W x) {k : Bool} {T : Tx} {env : Env} {o : Option Expr} {A : Around} {s : Shared} {φ : List Addr} {hp : List O} {l : Loc} (hi : isXO T x o = true) (ho : okX W.pc k x = true) (H : Here W T env A s φ hp l) {Q : QE} (q : wX W.G W.gs x l hp Q) :
    wpK k W.M A (evalPart o env) (EPost φ s Q) s := by
  rcases isXO_inv hi with ⟨rfl, rfl⟩ | ⟨e, rfl, h⟩
  · rw [evalPart_none]
    skip
    exact wpK.pure ⟨φ, hp, .none, .refl _ _, H.heap, rfl, q⟩
  · rw [evalPart_some]
    exact (hx k T env e A s φ hp l h ho H).1 Q q
theorem px_slc (a lo hi st : X) (ha : PX W a) (hlo : PX W lo) (hhi : PX W hi) (hst : PX W st) : PX W (.slc a lo hi st) := by
  intro k T env e A s φ hp l hi' ho H
  refine isX_slc hi' ?_
  rintro v lx ux sx p p' rfl h0 h1 h2 h3
  replace ho := and4_inv ho
  refine ⟨fun Q q => ?_, fun Q q hk => ?_⟩
  · skip
    refine wpK.Subscript (((ha k T env v A s φ hp l h0 ho.1.1.1 H).1 _ q).mono fun v1 s1 q1 => ?_)
    obtain ⟨φ1, hp1, u, x1, H1, r1, q1⟩ := q1
    refine wpK.of_any (wpAny_Slice (((part_ok hlo h1 ho.1.1.2 (H.step x1 H1) q1).mono fun v2 s2 q2 => ?_).any))
    obtain ⟨φ2, hp2, u2, x2, H2, r2, q2⟩ := q2
    refine ((part_ok hhi h2 ho.1.2 ((H.step x1 H1).step x2 H2) q2).mono fun v3 s3 q3 => ?_).any
    obtain ⟨φ3, hp3, u3, x3, H3, r3, q3⟩ := q3
    refine ((part_ok hst h3 ho.2 (((H.step x1 H1).step x2 H2).step x3 H3) q3).mono fun v4 s4 q4 => ?_).any
    refine bc fun no => ?_
    obtain ⟨φ4, hp4, u4, x4, H4, r4, q4⟩ := q4
    refine no ?_
    obtain ⟨a', T', id, rfl, hT, hl, hg⟩ := slc_ok (prog := W.prog) (w := W.w) (A := A) H4 (((r1.mono x2.pre).mono x3.pre).mono x4.pre) ((r2.mono x3.pre).mono x4.pre) (r3.mono x4.pre) r4 q4
    have hT' : ({ s4 with heap := s4.heap.push { cls := .type "slice", data := .fields #[v2, v3, v4] } } : Shared).TypeIs (.ref a') T' := by
      refine bc fun no => ?_
      obtain ⟨o, e, c⟩ := hT
      refine no ?_
      exact ⟨o, Heap.get?_push_of_some _ e, c⟩
    have hg' := wpAny_mono hg (fun _ _ (z : EPost φ4 s4 Q _ _) => z.from (((x1.trans x2).trans x3).trans x4)) fun _ _ (f : No _ _) => f
    induction sx with
    | none => exact tail_any hT' hl hg' (ops := [.ref s4.heap.objs.size, .ref a']) rfl
    | some z => exact tail_any hT' hl hg' (ops := [.ref a', .ref s4.heap.objs.size]) rfl
  · exact False.elim q
theorem ints_of_reps {φ : List Addr} : ∀ {us : List V} {vs : List Value} {is : List Int}, Reps φ us vs → intsOf us = some is → IntsAre vs is
  | [], [], is, _, h => by simp only [intsOf, Option.some.injEq] at h; subst h; exact .nil
  | u :: us, v :: vs, is, r, h => by
    induction u with
    | int i =>
      simp only [intsOf, Option.map_eq_some_iff] at h
      obtain ⟨js, hj, rfl⟩ := h
      obtain ⟨t, rfl⟩ := r.1
      exact .cons i t (ints_of_reps r.2 hj)
    | _ => simp [intsOf] at h
  | [], _ :: _, _, r, _ => r.elim
  | _ :: _, [], _, r, _ => r.elim
theorem px_list (xs : XL) (h : PXL W xs) : PX W (.list xs) := by
  intro k T env e A s φ hp l hi ho H
  refine isX_list hi ?_
  rintro es p rfl h1
  skip
  refine ⟨fun Q q => ?_, fun Q q hk => ?_⟩
  · skip
    rw [arm_eval_List]
    refine wpK.bind (wpK.standAt (wpK.bind ((((h.1 false T env es A s φ hp l p h1 ho H).1 _ q).weak).mono fun vs s1 q1 => ?_)))
    refine bc fun no => ?_
    obtain ⟨φ1, hp1, us, x1, H1, r1, q1⟩ := q1
    refine no ?_
    split at q1
    · rename_i is his
      have hI := ints_of_reps r1 his
      refine wpK.of_any (wpAny_newObj_type (EPost.from x1 ?_) ?_)
      · exact EPost.push (n := s1.toks) (o := .nums is) H1 ⟨vs, ⟨_, Heap.get?_push_size _ rfl⟩, hI⟩ q1.2
      · show vs.toArray.size ≤ sizeLine
        have := hI.length
        have := q1.1
        unfold SZ at this
        unfold sizeLine
        simp; omega
    · exact q1.elim
  · exact False.elim q
end
end Mine
end
section
open PySem PyProof.Rows
open Sem (wp)
namespace Mine
section
variable {W : Wld} (hW : W.Ok)
theorem bi_ok {k : Bool} {A : Around} {s : Shared} {φ : List Addr} {hp : List O} {Q : QE} {b : BI} {us : List V} {vs : List Value} (R : Room W.n A) (H : HeapRep φ hp s.heap) (r : Reps φ us vs) (hk : (k || b != .bytearray) = true) (h : wBI b us hp Q) :
    wpK k W.M A (PySem.call b.val vs []) (EPost φ s Q) s := by
  have hl := r.length
  rcases us with _ | ⟨u, _ | ⟨u', _ | ⟨u'', us⟩⟩⟩
  · induction b <;> exact False.elim h
  · obtain ⟨v, vs, rfl, hl1⟩ := len_s (n := 0) hl.symm
    obtain rfl := List.length_eq_zero_iff.mp hl1
    replace r := r.1
    clear hl hl1
    induction b with
    | len =>
      induction u with
      | ref n =>
        obtain ⟨a, e, rfl⟩ := r
        exact at_inv (F := fun l => l.length ≤ SZ ∧ Q (.int l.length) hp) (G := fun l => l.length ≤ SZ ∧ Q (.int l.length) hp) h (fun l hl h => wpK.of_any (len_nums H (H.at e hl) h.1 h.2)) (fun l hl h => wpK.of_any (len_bytes H (H.at e hl) h.1 h.2))
      | _ => exact False.elim h
    | max =>
      induction u with
      | ref n =>
        obtain ⟨a, e, rfl⟩ := r
        exact nums_inv (F := fun l => l ≠ [] ∧ l.length ≤ SZ ∧ ∀ M, M ∈ l → (∀ x ∈ l, x ≤ M) → Q (.int M) hp) h fun l hl h => wpK.of_any (max_ok R H (H.at e hl) h.1 h.2.2)
      | _ => exact False.elim h
    | lst =>
      induction u with
      | ref n =>
        obtain ⟨a, e, rfl⟩ := r
        exact at_inv (F := fun l => l.length ≤ SZ ∧ Q (.ref hp.length) (hp ++ [.nums l])) (G := fun l => l.length ≤ SZ ∧ Q (.ref hp.length) (hp ++ [.nums (l.map Int.ofNat)])) h (fun l hl h => wpK.of_any (list_nums_ok H (H.at e hl) h.1 h.2)) (fun l hl h => wpK.of_any (list_bytes_ok R H (H.at e hl) h.1 h.2))
      | _ => exact False.elim h
    | sorted =>
      induction u with
      | ref n =>
        obtain ⟨a, e, rfl⟩ := r
        exact nums_inv (F := fun l => l.length < 64 ∧ ∀ l', l'.Perm l → l'.Pairwise (· ≤ ·) → Q (.ref hp.length) (hp ++ [.nums l'])) h fun l hl h => wpK.of_any (sorted_ok H (H.at e hl) h.1 h.2)
      | _ => exact False.elim h
    | int =>
      induction u with
      | int i =>
        obtain ⟨t, rfl⟩ := r
        exact wpK.of_any (call_int_int (EPost.int' H h))
      | _ => exact False.elim h
    | bytearray =>
      have hk' : k = true := by rwa [show (BI.bytearray != .bytearray) = false from rfl, Bool.or_false] at hk
      subst hk'
      induction u with
      | int i =>
        obtain ⟨t, rfl⟩ := r
        exact mk_int H h.1 h.2.1 h.2.2
      | ref n =>
        obtain ⟨a, e, rfl⟩ := r
        exact at_inv (F := fun l => l.length ≤ SZ ∧ (∀ x ∈ l, isByte x) ∧ Q (.ref hp.length) (hp ++ [.bytes (l.map Int.toNat)])) (G := fun l => l.length ≤ SZ ∧ Q (.ref hp.length) (hp ++ [.bytes l])) h (fun l hl h => mk_list H (H.at e hl) h.1 h.2.1 h.2.2) (fun l hl h => mk_bytes H (H.at e hl) h.1 h.2)
      | _ => exact False.elim h
  · obtain ⟨v, vs, rfl, hl1⟩ := len_s (n := 1) hl.symm
    obtain ⟨v', vs, rfl, hl2⟩ := len_s (n := 0) hl1
    obtain rfl := List.length_eq_zero_iff.mp hl2
    clear hl hl1 hl2
    induction b with
    | max =>
      induction u with
      | int i =>
        induction u' with
        | int j =>
          obtain ⟨t, rfl⟩ := r.1
          obtain ⟨t', rfl⟩ := r.2.1
          exact wpK.of_any (max2_ok R H h)
        | _ => exact False.elim h
      | _ => exact False.elim h
    | _ => induction u <;> exact False.elim h
  · clear r hl
    induction b with
    | max =>
      induction u with
      | int i => induction u' <;> exact False.elim h
      | _ => exact False.elim h
    | _ => induction u <;> exact False.elim h
include hW in
theorem px_bi (b : BI) (xs : XL) (h : PXL W xs) : PX W (.bi b xs) := by
  intro k T env e A s φ hp l hi ho H
  refine isX_bi hi ?_
  rintro f p as q' rfl hf hg h1
  replace ho := and_inv ho
  refine ⟨fun Q q => ?_, fun Q q hk => ?_⟩
  · skip
    refine wpK.CallName (wpK.of_any (H.global hW hg (hW.base.bi b f hf) ?_))
    refine wpK.callWith_bi (by cases b <;> intro a h <;> cases h) (isXL_all h1) (((h.1 k T env as A s φ hp l q' h1 ho.2 H).1 _ q).mono fun vs s1 q1 => ?_)
    obtain ⟨φ1, hp1, us, x1, H1, r1, q1⟩ := q1
    exact (bi_ok H.room H1 r1 ho.1 q1).mono fun _ _ z => z.from x1
  · exact False.elim q
include hW in
theorem call_ok {k : Bool} {T : Tx} {env : Env} {A : Around} {s : Shared} {φ : List Addr} {hp : List O} {l : Loc} {c : Nat} {pos kw : XL} {f : Str} {as : List Expr} {ks : List Keyword} {p q' : Pos} {C : CallForm}
    (h : PXL W pos) (h' : PXL W kw) (H : Here W T env A s φ hp l) (hC : T.cf[c]? = some C) (hn : C.name = f) (hg : T.isGlob f = true) (h1 : isXL T pos as = true) (h2 : isKW T kw ks C.kws = true) (hl : as.length + 2 * ks.length ≤ 30)
    (ho : ((k || W.pc.getD c false) && okXL W.pc k pos && okXL W.pc k kw) = true) {Q : Res → List O → Prop}
    (q : wXL W.G W.gs pos l hp fun vs hp1 => wXL W.G W.gs kw l hp1 fun ws hp2 => match W.G[c]? with
      | some f => f.2 (vs ++ ws) hp2 Q
      | none => False) :
    wpK k W.M A (eval (.Call (.Name f p) as ks q') env) (RPost φ s Q) s := by
  simp only [Bool.and_eq_true] at ho
  have hG : ∃ tr, W.G[c]? = some (C, tr) := by
    rw [H.cf, List.getElem?_map, Option.map_eq_some_iff] at hC
    obtain ⟨⟨C', tr⟩, e, rfl⟩ := hC
    exact ⟨tr, e⟩
  obtain ⟨tr, hG⟩ := hG
  refine bc fun no => ?_
  obtain ⟨a, o, fd, hm, ho', hd, ok⟩ := hW.fns c _ hG
  refine no ?_
  rw [hG] at q
  refine wpK.CallName (wpK.of_any (H.global hW hg (.inl (hn ▸ hm)) ?_))
  have kf := isKW_facts (env := env) (pos := q') h2
  refine wpK.callWith_fn (isXL_all h1) kf.1 (by rw [isXL_len h1, kf.2.1]; exact hl) (((h.1 k T env as A s φ hp l q' h1 ho.1.2 H).1 _ q).mono fun vs s1 q1 => ?_)
  refine bc fun no => ?_
  obtain ⟨φ1, hp1, us, x1, H1, r1, q1⟩ := q1
  refine no ?_
  refine (h'.2 k T env ks C.kws A s1 φ1 hp1 l q' h2 ho.2 (H.step x1 H1) _ q1).mono fun ws s2 q2 => ?_
  refine bc fun no => ?_
  obtain ⟨hws, φ2, hp2, us2, x2, H2, r2, q2⟩ := q2
  refine no ?_
  have H' := (H.step x1 H1).step x2 H2
  refine ⟨⟨o, fd, H'.keep _ _ ho', hd⟩, ?_⟩
  rw [kf.2.2]
  refine wpK.call (codeK.mono (codeK.lift ?_ (ok A s2 φ2 hp2 (us ++ us2) vs ws Q H.room H'.keep H2 H'.gv ((r1.mono x2.pre).append r2) hws q2)) fun f s3 q3 => ?_)
  · intro hh
    rcases Bool.eq_false_or_eq_true k with h | h
    · exact h
    · rw [h] at ho
      have := ho.1.1
      simp only [Bool.false_or] at this
      rw [this] at hh; cases hh
  · obtain ⟨v, rfl, z⟩ := q3
    exact ⟨v, rfl, z.from (x1.trans x2)⟩
include hW in
theorem px_call (c : Nat) (pos kw : XL) (h : PXL W pos) (h' : PXL W kw) : PX W (.call c pos kw) := by
  intro k T env e A s φ hp l hi ho H
  refine isX_call hi ?_
  rintro f p as ks q' C rfl hC hn hg h1 h2 hl
  skip
  have main : ∀ Q : QE, (wXL W.G W.gs pos l hp fun vs hp1 => wXL W.G W.gs kw l hp1 fun ws hp2 => match W.G[c]? with
      | some f => f.2 (vs ++ ws) hp2 fun r hp3 => match r with
        | .one v => Q v hp3
        | .many _ _ => False
      | none => False) → wpK k W.M A (eval (.Call (.Name f p) as ks q') env) (EPost φ s Q) s := fun Q q => by
    refine (call_ok hW h h' H hC hn hg h1 h2 hl ho q).mono fun v s1 z => ?_
    refine bc fun no => ?_
    obtain ⟨φ1, hp1, r, x1, H1, r1, q1⟩ := z
    refine no ?_
    cases r with
    | one u => exact ⟨φ1, hp1, u, x1, H1, r1, q1⟩
    | many _ _ => exact q1.elim
  refine ⟨fun Q q => ?_, fun Q q hk => ?_⟩
  · skip
    exact main Q q
  · subst hk
    skip
    exact plain_test (k := false) (x := .none) (l := l) (hp := hp) (main _ q)
theorem pxl_nil : PXL W .nil := by
  refine ⟨fun k T env es A s φ hp l pos hi ho H => ?_, fun k T env ks ns A s φ hp l pos hi ho H Q q => ?_⟩
  · rw [isXL_nil hi]
    refine ⟨fun Q q => ?_, fun Q q _ => ?_, fun Q q _ whole => ?_, fun Q q _ whole => ?_⟩
    · skip
      exact wpK.spliced_nil ⟨φ, hp, [], .refl _ _, H.heap, trivial, q⟩
    · simp only [wOr] at q
    · skip
      exact wpK.of_any (isTrue_and_nil ⟨φ, hp, .refl _ _, H.heap, q⟩)
    · skip
      exact wpK.of_any (isTrue_or_nil ⟨φ, hp, .refl _ _, H.heap, q⟩)
  · obtain ⟨rfl, rfl⟩ := isKW_nil hi
    skip
    exact wpK.evalAll_nil ⟨rfl, φ, hp, [], .refl _ _, H.heap, trivial, q⟩
theorem pxl_cons (x : X) (xs : XL) (hx : PX W x) (h : PXL W xs) : PXL W (.cons x xs) := by
  refine ⟨fun k T env es A s φ hp l pos hi ho H => ?_, fun k T env ks ns A s φ hp l pos hi ho H Q q => ?_⟩
  · refine isXL_cons hi ?_
    rintro e r rfl hs h1 h2
    replace ho := and_inv ho
    refine ⟨fun Q q => ?_, fun Q q hk => ?_, fun Q q hk whole => ?_, fun Q q hk whole => ?_⟩
    · skip
      rw [starEach_plain hs]
      refine wpK.spliced_cons (x := eval e env) (rest := backTo pos (starEach r env)) (((hx k T env e A s φ hp l h1 ho.1 H).1 _ q).mono fun v s1 q1 => ?_)
      refine bc fun no => ?_
      obtain ⟨φ1, hp1, u, x1, H1, r1, q1⟩ := q1
      refine no ?_
      refine ((h.1 k T env r A s1 φ1 hp1 l pos h2 ho.2 (H.step x1 H1)).1 _ q1).mono fun vs s2 q2 => ?_
      refine bc fun no => ?_
      obtain ⟨φ2, hp2, us, x2, H2, r2, q2⟩ := q2
      refine no ?_
      exact ⟨φ2, hp2, u :: us, x1.trans x2, H2, ⟨r1.mono x2.pre, r2⟩, q2⟩
    · subst hk
      cases xs with
      | nil =>
        rw [isXL_nil h2]
        simp only [wOr] at q
        exact wpK.of_any (BoolOp_one (((hx false T env e A s φ hp l h1 ho.1 H).1 _ q).any))
      | cons y ys =>
        refine isXL_cons h2 ?_
        rintro e' r' rfl hs' h1' h2'
        simp only [wOr] at q
        refine wpK.of_any (BoolOp_or ((((hx false T env e A s φ hp l h1 ho.1 H).1 _ q).mono fun v s1 q1 => ?_).any))
        refine bc fun no => ?_
        obtain ⟨φ1, hp1, u, x1, H1, r1, q1⟩ := q1
        refine no ?_
        refine wpAny_mono (truth_ok H1 r1 q1) (fun b s2 q2 => ?_) fun _ _ f => f
        obtain ⟨φ2, hp2, x2, H2, q2⟩ := q2
        cases b with
        | true => exact ⟨φ2, hp2, u, x1.trans x2, H2, r1.mono x2.pre, q2⟩
        | false => exact ((((h.1 false T env (e' :: r') A s2 φ2 hp2 l pos h2 ho.2 ((H.step x1 H1).step x2 H2)).2.1 _ q2 rfl).mono fun _ _ z => z.from (x1.trans x2)).any)
    · subst hk
      skip
      refine wpK.of_any (isTrue_and ((((hx false T env e A s φ hp l h1 ho.1 H).2 _ q rfl).mono fun v s1 q1 => ?_).any))
      obtain ⟨φ1, hp1, x1, H1, q1⟩ := q1
      cases v with
      | true => exact ((((h.1 false T env r A s1 φ1 hp1 l pos h2 ho.2 (H.step x1 H1)).2.2.1 _ q1 rfl whole).mono fun _ _ z => z.from x1).any)
      | false => exact ⟨φ1, hp1, x1, H1, q1⟩
    · subst hk
      skip
      refine wpK.of_any (isTrue_or ((((hx false T env e A s φ hp l h1 ho.1 H).2 _ q rfl).mono fun v s1 q1 => ?_).any))
      obtain ⟨φ1, hp1, x1, H1, q1⟩ := q1
      cases v with
      | false => exact ((((h.1 false T env r A s1 φ1 hp1 l pos h2 ho.2 (H.step x1 H1)).2.2.2 _ q1 rfl whole).mono fun _ _ z => z.from x1).any)
      | true => exact ⟨φ1, hp1, x1, H1, q1⟩
  · refine bc fun no => ?_
    refine isKW_cons hi ?_
    rintro n v p r ms rfl rfl h1 h2
    refine no ?_
    replace ho := and_inv ho
    skip
    refine wpK.evalAll_cons (x := do let v ← eval v env; standAt pos; Pure.pure v) (rest := (backToKw pos (keywordEach r env)).map (·.2)) ?_
    refine wpK.bind (((hx k T env v A s φ hp l h1 ho.1 H).1 _ q).mono fun v s1 q1 => wpK.bind (wpK.standAt (wpK.pure ?_)))
    refine bc fun no => ?_
    obtain ⟨φ1, hp1, u, x1, H1, r1, q1⟩ := q1
    refine no ?_
    refine (h.2 k T env r ms A s1 φ1 hp1 l pos h2 ho.2 (H.step x1 H1) _ q1).mono fun vs s2 q2 => ?_
    refine bc fun no => ?_
    obtain ⟨hl, φ2, hp2, us, x2, H2, r2, q2⟩ := q2
    refine no ?_
    exact ⟨by simp [hl], φ2, hp2, u :: us, x1.trans x2, H2, ⟨r1.mono x2.pre, r2⟩, q2⟩
end
end Mine
end
section
open PySem PyProof.Rows
open Sem (wp)
namespace Mine
local macro_rules | `(tactic| omega) => `(tactic| first | assumption | lia | omega +splitDisjunctions)
theorem clos_go (env : Env) (f : Str × NameKind → List (Str × Addr) → Sem (ForInStep (List (Str × Addr))))
    (hf : ∀ n k cs, f (n, k) cs = if k == .free then (do let c ← cellOf env n; pure (.yield ((n, c) :: cs))) else pure (.yield cs)) :
    ∀ (names : List (Str × NameKind)) (acc : List (Str × Addr)), (∀ y ∈ names, y.2 = .free → ∃ c, env.cells.lookup y.1 = some c) → (∀ z c, acc.lookup z = some c → env.cells.lookup z = some c) →
      ∃ cl, forIn names acc f = (pure cl : Sem _) ∧ (∀ z c, cl.lookup z = some c → env.cells.lookup z = some c) ∧ (∀ z, (acc.lookup z).isSome = true → (cl.lookup z).isSome = true) ∧ ∀ y ∈ names, y.2 = .free → (cl.lookup y.1).isSome = true
  | [], acc, _, ha => ⟨acc, by rw [List.forIn_nil], ha, fun _ h => h, fun y hy => nomatch hy⟩
  | (n, k) :: r, acc, hn, ha => by
    rw [List.forIn_cons, hf]
    by_cases hk : k = .free
    · subst hk
      obtain ⟨c, hc⟩ := hn (n, .free) List.mem_cons_self rfl
      have ha' : ∀ z c', ((n, c) :: acc).lookup z = some c' → env.cells.lookup z = some c' := fun z c' h => by
        rw [List.lookup_cons] at h
        induction hz : z == n with
        | true =>
          rw [hz] at h
          have := eq_of_beq hz
          subst this
          simp only [Option.some.injEq] at h
          subst h; exact hc
        | false => rw [hz] at h; exact ha z c' h
      refine bc fun no => ?_
      obtain ⟨cl, e, h1, h2, h3⟩ := clos_go env f hf r ((n, c) :: acc) (fun y hy => hn y (List.mem_cons_of_mem _ hy)) ha'
      refine no ?_
      refine ⟨cl, ?_, h1, fun z hz => h2 z ?_, fun y hy hf' => ?_⟩
      · rw [← e]
        show (if (NameKind.free == NameKind.free) = true then _ else _) >>= _ = _
        unfold cellOf
        rw [hc]
        rfl
      · rw [List.lookup_cons]
        induction z == n with
        | true => rfl
        | false => exact hz
      · rcases List.mem_cons.mp hy with rfl | hy
        · exact h2 n (by rw [List.lookup_cons]; simp)
        · exact h3 y hy hf'
    · refine bc fun no => ?_
      obtain ⟨cl, e, h1, h2, h3⟩ := clos_go env f hf r acc (fun y hy => hn y (List.mem_cons_of_mem _ hy)) ha
      refine no ?_
      refine ⟨cl, ?_, h1, h2, fun y hy hf' => ?_⟩
      · rw [← e, if_neg (by simpa using hk)]
        rfl
      · rcases List.mem_cons.mp hy with rfl | hy
        · exact absurd hf' hk
        · exact h3 y hy hf'
theorem clos_ok {sc : Scope} {env : Env} (h : ∀ y ∈ sc.names, y.2 = .free → ∃ c, env.cells.lookup y.1 = some c) :
    ∃ cl, closureFor sc env = pure cl ∧ ∀ z, sc.names.lookup z = some .free → cl.lookup z = env.cells.lookup z := by
  refine bc fun no => ?_
  obtain ⟨cl, e, h1, _, h3⟩ := clos_go env (fun x cs => match x with | (name, kind) => if kind == .free then (do let c ← cellOf env name; pure (.yield ((name, c) :: cs))) else pure (.yield cs)) (fun _ _ _ => rfl) sc.names [] h (fun z c h => by cases h)
  refine no ?_
  refine ⟨cl, ?_, fun z hz => ?_⟩
  · unfold closureFor
    rw [← e]
    show _ = forIn sc.names [] _
    rw [← bind_pure (forIn sc.names [] _)]
  · have hm : (z, NameKind.free) ∈ sc.names := mem_of_lookup hz
    have := h3 _ hm rfl
    obtain ⟨c, hc⟩ := Option.isSome_iff_exists.mp this
    rw [hc, h1 z c hc]
theorem relabel_keep {env : Env} {K : NameKind} (hK : K ≠ .free) : ∀ {names : List (Str × NameKind)} {x : Str}, names.lookup x = some K →
    (names.map fun (n, k) => if (k == NameKind.free && env.scope.kind == .function && env.kindOf n == some .cell) then (n, NameKind.cell) else (n, k)).lookup x = some K
  | [], _, h => by simp at h
  | (n, k) :: r, x, h => by
    have ih := @relabel_keep env K hK r x
    show List.lookup x ((if (k == NameKind.free && env.scope.kind == .function && env.kindOf n == some .cell) = true then (n, NameKind.cell) else (n, k)) :: _) = _
    induction hx : x == n with
    | true =>
      simp only [List.lookup_cons, hx, Option.some.injEq] at h
      subst h
      have : (k == NameKind.free) = false := by simpa using hK
      simp [List.lookup_cons, hx, this]
    | false =>
      simp only [List.lookup_cons, hx] at h
      by_cases hc : (k == NameKind.free && env.scope.kind == .function && env.kindOf n == some .cell) = true
      · rw [if_pos hc]; simp only [List.lookup_cons, hx]; exact ih h
      · rw [if_neg hc]; simp only [List.lookup_cons, hx]; exact ih h
theorem relabel_free {env : Env} (hf : env.scope.kind = .function) : ∀ {names : List (Str × NameKind)} {x : Str}, env.kindOf x = some .cell → names.lookup x = some .free →
    (names.map fun (n, k) => if (k == NameKind.free && env.scope.kind == .function && env.kindOf n == some .cell) then (n, NameKind.cell) else (n, k)).lookup x = some .cell
  | [], _, _, h => by simp at h
  | (n, k) :: r, x, hc', h => by
    have ih := @relabel_free env hf r x hc'
    show List.lookup x ((if (k == NameKind.free && env.scope.kind == .function && env.kindOf n == some .cell) = true then (n, NameKind.cell) else (n, k)) :: _) = _
    induction hx : x == n with
    | true =>
      simp only [List.lookup_cons, hx, Option.some.injEq] at h
      subst h
      have := eq_of_beq hx
      subst this
      simp [List.lookup_cons, hx, hf, hc']
    | false =>
      simp only [List.lookup_cons, hx] at h
      by_cases hc : (k == NameKind.free && env.scope.kind == .function && env.kindOf n == some .cell) = true
      · rw [if_pos hc]; simp only [List.lookup_cons, hx]; exact ih h
      · rw [if_neg hc]; simp only [List.lookup_cons, hx]; exact ih h
structure CompOk (T : Tx) (sc : Scope) (k : Nat) (x : Str) : Prop where
  top : T.top = true
  fn : sc.kind = .function
  lt : k < T.ns.length
  loc : sc.names.lookup x = some .local
  nocell : ∀ y ∈ sc.names, y.2 ≠ .cell
  locs : ∀ y ∈ sc.names, y.2 = .local → sc.names.lookup y.1 = some .local
  free : ∀ y ∈ sc.names, y.2 = .free → T.sc.names.lookup y.1 = some .cell
theorem okComp_inv {T : Tx} {sc : Scope} {k : Nat} {x : Str} (h : okComp T sc k x = true) : CompOk T sc k x := by
  unfold okComp at h
  simp only [Bool.and_eq_true, List.all_eq_true, beq_iff_eq, decide_eq_true_eq, Bool.or_eq_true, bne_iff_ne] at h
  obtain ⟨⟨⟨⟨⟨h1, h2⟩, h3⟩, h4⟩, h5⟩, h6⟩ := h
  refine ⟨h1, h2, h3, h4, fun y hy => (h5 y hy).1, fun y hy e => ?_, fun y hy e => ?_⟩
  · rcases (h5 y hy).2 with h | h
    · exact absurd e h
    · exact h
  · rcases h6 y hy with h | h
    · exact absurd e h
    · exact h
theorem inner_env {T : Tx} {env : Env} {sc : Scope} {k : Nat} {x : Str} {cl : List (Str × Addr)} (C : CompOk T sc k x) (E : EnvS T env) (D : Addr) : EnvS (T.inner sc k x) (compEnvC sc cl D env) :=
  ⟨C.fn, E.gl, E.bu, fun y hy => relabel_keep (by decide) hy, fun h => by cases h⟩
theorem inner_ns {T : Tx} {sc : Scope} {k j : Nat} {x y : Str} (h : (T.inner sc k x).ns[j]? = some (some y)) : (j = k ∧ y = x) ∨ (j ≠ k ∧ T.ns[j]? = some (some y) ∧ sc.names.lookup y = some .free ∧ T.sc.names.lookup y = some .cell) := by
  unfold Tx.inner at h
  simp only [List.getElem?_map, Option.map_eq_some_iff] at h
  refine bc fun no => ?_
  obtain ⟨⟨n, i⟩, h1, h2⟩ := h
  refine no ?_
  rw [List.getElem?_zipIdx, Option.map_eq_some_iff] at h1
  refine bc fun no => ?_
  obtain ⟨n', h1, h3⟩ := h1
  refine no ?_
  simp only [Nat.zero_add, Prod.mk.injEq] at h3
  obtain ⟨rfl, rfl⟩ := h3
  simp only at h2
  by_cases hj : j = k
  · rw [if_pos hj] at h2
    exact .inl ⟨hj, (by simpa using h2.symm)⟩
  · rw [if_neg hj] at h2
    induction n' with
    | none => simp at h2
    | some z =>
      simp only [Option.bind_some] at h2
      split at h2
      · rename_i hc
        simp only [Bool.and_eq_true, beq_iff_eq] at hc
        cases h2
        exact .inr ⟨hj, h1, hc.1, hc.2⟩
      · cases h2
theorem inner_LR {T : Tx} {env : Env} {sc : Scope} {k : Nat} {x : Str} {cl : List (Str × Addr)} {φ : List Addr} {l : Loc} {h h' : Heap} {v : V} {w : Value} {D : Addr} {m : Str → Option Value} (C : CompOk T sc k x) (E : EnvS T env)
    (hcl : ∀ z, sc.names.lookup z = some .free → cl.lookup z = env.cells.lookup z) (L : LR T env φ l h) (K : Keep h h') (hn : h'.Ns D m) (hm : m x = some w) (r : Rep φ v w) : LR (T.inner sc k x) (compEnvC sc cl D env) φ (l.set k v) h' := by
  intro j y u hj hu
  rcases inner_ns hj with ⟨rfl, rfl⟩ | ⟨hne, h1, h2, h3⟩
  · simp only [Loc.set, if_pos, Option.some.injEq] at hu
    subst hu
    exact ⟨w, r, .inl ⟨lookup_relabel_local C.loc, m, hn, hm⟩⟩
  · simp only [Loc.set, if_neg hne] at hu
    obtain ⟨w', r', R⟩ := L j y u h1 hu
    have hk : env.kindOf y = some .cell := by
      unfold Env.kindOf
      rw [(E.top C.top).1]; exact h3
    rcases R with ⟨a, _⟩ | ⟨a, c, hc, hv⟩
    · rw [hk] at a; cases a
    · exact ⟨w', r', .inr ⟨relabel_free E.fn hk h2, c, (hcl y h2).trans hc, hv.keeps K⟩⟩
theorem Ext.keeps {s s' : Shared} {φ φ' : List Addr} (x : Ext s s' φ φ') : Keeps s s' := by
  refine ⟨s'.heap, s'.toks, ?_, x.keep⟩
  obtain ⟨h, g, d, t, o⟩ := s'
  have h1 := x.gens
  have h2 := x.drawn
  have h3 := x.os
  simp only at h1 h2 h3
  subst h1 h2 h3
  rfl
section
variable {W : Wld} (hW : W.Ok)
noncomputable def CompF (f : Int → Int) (v y : Value) : Prop := ∃ x t u, v = .int x t ∧ y = .int (f x) u
theorem comp_quiet {T : Tx} {env : Env} {A : Around} {s1 s2 : Shared} {φ : List Addr} {hp : List O} {l : Loc} {k : Nat} {x : Str} {sc : Scope} {cl : List (Str × Addr)} {elt : X} {el : Expr} (helt : PX W elt) {xs : List Int} {f : Int → Int} {P : Nat → Value → Prop} {wr : List Addr}
    (C : CompOk T sc k x) (hi : isX (T.inner sc k x) elt el = true) (ho : okX W.pc false elt = true) (H : Here W T env A s1 φ hp l) (hcl : ∀ z, sc.names.lookup z = some .free → cl.lookup z = env.cells.lookup z)
    (hP : ∀ i v, P i v → ∃ y t, y ∈ xs ∧ v = .int y t) (hwr : ∀ b o, s1.heap.get? b = some o → b ∉ wr ∧ s2.heap.get? b = some o)
    (q : ∀ y ∈ xs, wX W.G W.gs elt (l.set k (.int y)) hp fun v hp2 => v = .int (f y) ∧ hp2 = hp) :
    QuietOnC W.prog W.w A env sc cl x [] el wr P (fun _ => true) (CompF f) s2 := by
  refine ⟨fun D i v s3 m3 E' hD hPv hn hm hk htk => ?_, fun D i v s3 m3 E' hD hPv _ hn hm hk htk => ?_⟩
  · rw [List.forIn_nil]
    exact wpAny_pure ⟨rfl, s3.heap, s3.toks, rfl, fun _ _ e => e⟩
  · obtain ⟨y, t, hy, rfl⟩ := hP i v hPv
    have K : Keep s1.heap s3.heap := fun b o e => hk b o (hwr b o e).1 (hwr b o e).2
    have H' : Here W (T.inner sc k x) (compEnvC sc cl D env) A s3 φ hp (l.set k (.int y)) :=
      ⟨inner_env C H.es D, H.cf, H.gn, H.room, fun b o e => K b o (H.keep b o e), H.gv, H.heap.mono K, inner_LR C H.es hcl H.loc K hn hm ⟨t, rfl⟩⟩
    refine wpAny_mono (((helt false _ _ el A s3 φ hp _ hi ho H').1 _ (q y hy)).any (E := E')) (fun z s4 h4 => ?_) fun _ _ f => f
    refine bc fun no => ?_
    obtain ⟨φ', hp', u, x1, H1, r1, rfl, rfl⟩ := h4
    refine no ?_
    obtain ⟨u, rfl⟩ := r1
    exact ⟨⟨y, t, u, rfl, rfl⟩, x1.keeps⟩
theorem paired_ints {f : Int → Int} {vs ys : List Value} (hF : Paired (CompF f) vs ys) : ∀ {xs : List Int}, vs.length = xs.length → (∀ (j : Nat) v, vs[j]? = some v → ∃ y t, xs[j]? = some y ∧ v = .int y t) → IntsAre ys (xs.map f) := by
  induction hF with
  | nil =>
    intro xs h _
    induction xs with
    | nil => exact .nil
    | cons => simp at h
  | @cons a b l₁ l₂ hF t ih =>
    intro xs h hP
    induction xs with
    | nil => simp at h
    | cons x xs =>
      obtain ⟨y, u, e, rfl⟩ := hP 0 _ rfl
      obtain ⟨x', t', u', e', rfl⟩ := hF
      cases e'
      simp only [List.getElem?_cons_zero, Option.some.injEq] at e
      subst e
      exact .cons _ _ (ih (by simpa using h) (fun j v hv => hP (j + 1) v hv))
structure Src (W : Wld) (A : Around) (s1 s2 : Shared) (I : Addr) (fp wr : List Addr) (P : Nat → Value → Prop) (St : Nat → Heap → Prop) (xs : List Int) : Prop where
  walks : Walks W.prog W.w A I fp wr xs.length P St
  size : xs.length ≤ sizeLine
  start : St 0 s2.heap
  below : ∀ b ∈ fp, b < s2.heap.objs.size
  item : ∀ (i : Nat) v, P i v → ∃ y t, xs[i]? = some y ∧ v = .int y t
  live : ∀ i h, St i h → ∀ b ∈ fp, ∃ o, h.get? b = some o
  fresh : ∀ b ∈ wr, s1.heap.get? b = none
  same : ∃ tk, s2 = { s1 with heap := s2.heap, toks := tk }
  old : ∀ b o, s1.heap.get? b = some o → b ∉ wr ∧ s2.heap.get? b = some o
theorem fresh_of {h : Heap} {a : Addr} (ha : h.objs.size ≤ a) : h.get? a = none := by
  induction e : h.get? a with
  | none => rfl
  | some o => exact absurd (Heap.lt_size e) (Nat.not_lt.mpr ha)
theorem src_list {A : Around} {s : Shared} {a : Addr} {xs : List Int} (hh : A.handled = none) (x : ObjIs s.heap a (.nums xs)) (hz : xs.length ≤ SZ) {Q : Value → Shared → Prop}
    (q : ∀ s2 I fp wr P St, Src W A s s2 I fp wr P St xs → (fp = [I, a] ∧ I = s.heap.objs.size) → Q (.ref I) s2) : wpAny W.M A (pyIter (.ref a)) Q No s := by
  obtain ⟨vs, p, hi⟩ := x
  have hl := hi.length
  refine wpAny_pyIter_list p.isList (q _ _ [s.heap.objs.size, a] [s.heap.objs.size] (fun i v => vs.toArray[i]? = some v) (fun i h => h.IsListIter s.heap.objs.size a i ∧ h.IsList a vs.toArray) ⟨?_, ?_, ?_, ?_, ?_, fun i h ⟨⟨o, e, _⟩, ⟨o', e', _⟩⟩ b hb => by
      simp only [List.mem_cons, List.not_mem_nil, or_false] at hb
      rcases hb with rfl | rfl
      · exact ⟨o, e⟩
      · exact ⟨o', e'⟩, fun b hb => by simp only [List.mem_cons, List.not_mem_nil, or_false] at hb; subst hb; exact fresh_size _, ⟨s.toks, rfl⟩, ?_⟩ ⟨rfl, rfl⟩)
  · have := Walks.list (prog := W.prog) (w := W.w) hh s.heap.objs.size a (Nat.ne_of_lt (by obtain ⟨n, e⟩ := p; exact Heap.lt_size e)) vs.toArray
    rw [show vs.toArray.size = xs.length by simp [hl]] at this
    exact this
  · unfold SZ at hz; unfold sizeLine; omega
  · refine ⟨?_, ?_⟩
    · exact ⟨_, Heap.get?_push_size _ rfl, rfl, rfl⟩
    · exact p.isList.at fun o e => Heap.get?_push_of_some _ e
  · intro b hb
    show b < (s.heap.push _).objs.size
    rw [Heap.size_push]
    obtain ⟨n, e⟩ := p
    have := Heap.lt_size e
    simp only [List.mem_cons, List.not_mem_nil, or_false] at hb
    rcases hb with rfl | rfl
    · exact Nat.lt_succ_self _
    · exact Nat.lt_succ_of_lt this
  · intro i v h
    have h : vs[i]? = some v := by simpa using h
    have hlt : i < xs.length := by
      rw [← hl]
      exact (List.getElem?_eq_some_iff.mp h).1
    obtain ⟨t, e⟩ := intsAre_get hi (j := i) (y := xs[i]) (by simp)
    rw [h] at e
    cases e
    exact ⟨xs[i], t, by simp, rfl⟩
  · intro b o e
    exact ⟨by simpa using Nat.ne_of_lt (Heap.lt_size e), Heap.get?_push_of_some _ e⟩
theorem src_range {A : Around} {s : Shared} {r : Addr} {a b : Int} {t u v : Tok} (hh : A.handled = none) (hr : IsRange s.heap r a b 1 t u v) (ha : a.natAbs ≤ SZ) (hb : b.natAbs ≤ SZ) {Q : Value → Shared → Prop}
    (q : ∀ s2 I fp wr P St, Src W A s s2 I fp wr P St ((List.range (b - a).toNat).map fun i : Nat => a + i) → (fp = [I] ∧ I = s.heap.objs.size) → Q (.ref I) s2) : wpAny W.M A (pyIter (.ref r)) Q No s := by
  unfold SZ at ha hb
  have hn : Builtin.Range.rangeSize a b 1 = ((b - a).toNat : Int) := by
    unfold Builtin.Range.rangeSize
    split <;> omega
  have hsmall : Builtin.Range.small a b 1 = true := by
    unfold Builtin.Range.small
    rw [hn]
    simp only [Builtin.Range.rangeFitsLong, Bool.and_eq_true, decide_eq_true_eq, Bool.or_eq_true, beq_iff_eq]
    refine ⟨⟨⟨⟨?_, ?_⟩, ?_⟩, ?_⟩, .inr ?_⟩
    · omega
    · omega
    · omega
    · omega
    · rw [if_pos (by omega)]
      simp only [Bool.and_eq_true, decide_eq_true_eq]
      omega
  refine wpAny_pyIter_range hr hsmall (q _ _ [s.heap.objs.size] [s.heap.objs.size] (fun i v => i < (b - a).toNat ∧ ∃ t, v = .int (a + i * 1) t) (fun i h => IsRangeIter h s.heap.objs.size (a + (i : Nat) * 1) (((b - a).toNat : Int) - (i : Nat)) 1) ⟨?_, ?_, ?_, ?_, ?_, fun i h e b hb => by simp only [List.mem_cons, List.not_mem_nil, or_false] at hb; subst hb; exact ⟨_, e⟩, fun b hb => by simp only [List.mem_cons, List.not_mem_nil, or_false] at hb; subst hb; exact fresh_size _, ⟨s.toks, rfl⟩, ?_⟩ ⟨rfl, rfl⟩)
  · have := (Walks.range (prog := W.prog) (w := W.w) hh s.heap.objs.size a 1 (b - a).toNat).bound
    simpa using this
  · simp only [List.length_map, List.length_range]; unfold sizeLine; omega
  · show IsRangeIter _ _ _ _ _
    rw [hn]
    simpa using Heap.get?_push_size _ rfl
  · intro c hc
    show c < (s.heap.push _).objs.size
    rw [Heap.size_push]
    simp only [List.mem_cons, List.not_mem_nil, or_false] at hc
    subst hc
    exact Nat.lt_succ_self _
  · rintro i v ⟨hi, t, rfl⟩
    exact ⟨a + i, t, by simp [hi], by simp⟩
  · intro c o e
    exact ⟨by simpa using Nat.ne_of_lt (Heap.lt_size e), Heap.get?_push_of_some _ e⟩
end
end Mine
end
section
open PySem PyProof.Rows
open Sem (wp)
namespace Mine
local macro_rules | `(tactic| omega) => `(tactic| first | assumption | lia | omega +splitDisjunctions)
section
variable {W : Wld} (hW : W.Ok)
theorem listComp_in {prog : Program} {w : World} {A : Around} {E : Value → Shared → Prop} {env : Env} {s : Shared} {elt iter : Expr} {x : Str} {px : Pos} {scope : Scope} {cl : List (Str × Addr)} {pos : Pos} {Q : Value → Shared → Prop}
    (hclos : closureFor scope env = pure cl) (hcell : ∀ y ∈ scope.names, y.2 ≠ .cell) (hkind : scope.kind = .function)
    (hnames : ∀ y ∈ scope.names, y.2 = .local → scope.names.lookup y.1 = some .local) (hx : scope.names.lookup x = some .local)
    (h : wpAny (model prog w) A (eval iter env) (fun xv s₁ => wpAny (model prog w) A (pyIter xv) (fun it s₂ => ∃ F I fp wr n P St, it = .ref I ∧ Walks prog w A I fp wr n P St ∧ n ≤ sizeLine ∧ St 0 s₂.heap ∧ (∀ b ∈ fp, b < s₂.heap.objs.size) ∧
      QuietOnC prog w A env scope cl x [] elt wr P (fun _ => true) F s₂ ∧
      (∀ D h' tk ys (vs : List Value), s₂.heap.get? D = none → h'.IsList D ys → h'.PlainList D ys → vs.length = n → (∀ j v, vs[j]? = some v → P j v) → Paired F (vs.filter fun _ => true) ys.toList →
        (∀ b o, b ∉ wr → s₂.heap.get? b = some o → h'.get? b = some o) → Q (.ref D) { s₂ with heap := h', toks := tk })) E s₁) E s)
    (hs : ∀ x, foldedSetIterable iter env x = pure x) :
    wpAny (model prog w) A (eval (.ListComp elt [⟨.Name x px, iter, [], 0⟩] scope pos) env) Q E s := by
  rw [eval_ListComp]
  refine wpAny_comprehension_free (use := none) rfl hs hclos hkind hnames (wpAny_mono h (fun xv s₁ h₁ => wpAny_mono h₁ (fun it s₂ h₂ => ?_) fun _ _ e => e) fun _ _ e => e)
  refine bc fun no => ?_
  obtain ⟨F, I, fp, wr, n, P, St, rfl, W, hsz, hst, hfp, hq, hQ⟩ := h₂
  refine no ?_
  refine comp_block_walkC (RR := fun acc C => compPost (model prog w) A E none Q acc C) W hsz _ F hcell hkind hx hst hfp hq ?_
  intro D C h' tk m' ys vs hD hC hDC hn hl hpl hlen hP hF hk
  exact ⟨m', hn, fun h'' hs'' => hQ D h'' tk ys vs hD (hl.extBut hs''.extBut hDC) (hpl.extBut hs''.extBut hDC) hlen hP hF fun b o hbf e => hs''.extBut b o (by rintro rfl; rw [hC] at e; cases e) (hk b o hbf e)⟩
theorem filter_true {α : Type} (l : List α) : l.filter (fun _ => true) = l := by simp
theorem comp_made {A : Around} {s1 s2 : Shared} {φ1 : List Addr} {hp1 : List O} {I : Addr} {fp wr : List Addr} {P : Nat → Value → Prop} {St : Nat → Heap → Prop} {xs : List Int} {f : Int → Int} (S : Src W A s1 s2 I fp wr P St xs) (H1 : HeapRep φ1 hp1 s1.heap)
    {D : Addr} {h' : Heap} {ys : Array Value} {vs : List Value} (hD : s2.heap.get? D = none) (hp : h'.PlainList D ys) (hl : vs.length = xs.length) (hP : ∀ j v, vs[j]? = some v → P j v) (hF : Paired (CompF f) (vs.filter fun _ => true) ys.toList)
    (hk : ∀ b o, b ∉ wr → s2.heap.get? b = some o → h'.get? b = some o) : s1.heap.get? D = none ∧ ObjIs h' D (.nums (xs.map f)) ∧ Keep s1.heap h' := by
  refine ⟨?_, ⟨ys.toList, by simpa using hp, ?_⟩, fun b o e => hk b o (S.old b o e).1 (S.old b o e).2⟩
  · induction e : s1.heap.get? D with
    | none => rfl
    | some o => rw [(S.old D o e).2] at hD; cases hD
  · rw [filter_true] at hF
    exact paired_ints hF hl fun j v hv => S.item j v (hP j v hv)
theorem comp_eval {T : Tx} {env : Env} {A : Around} {s1 s2 : Shared} {φ1 : List Addr} {hp1 : List O} {l : Loc} {k : Nat} {x : Str} {sc : Scope} {cl : List (Str × Addr)} {elt : X} {el : Expr} (helt : PX W elt) {I : Addr} {fp wr : List Addr} {P : Nat → Value → Prop} {St : Nat → Heap → Prop} {xs : List Int} {f : Int → Int}
    (S : Src W A s1 s2 I fp wr P St xs) (C : CompOk T sc k x) (hi : isX (T.inner sc k x) elt el = true) (ho : okX W.pc false elt = true) (H : Here W T env A s1 φ1 hp1 l) (hcl : ∀ z, sc.names.lookup z = some .free → cl.lookup z = env.cells.lookup z)
    (q : ∀ y ∈ xs, wX W.G W.gs elt (l.set k (.int y)) hp1 fun v hp2 => v = .int (f y) ∧ hp2 = hp1) {Q : Value → Shared → Prop}
    (hQ : ∀ D h' tk, s1.heap.get? D = none → ObjIs h' D (.nums (xs.map f)) → Keep s1.heap h' → Q (.ref D) { s1 with heap := h', toks := tk }) :
    ∃ I' fp wr n P St, Value.ref I = .ref I' ∧ Walks W.prog W.w A I' fp wr n P St ∧ n ≤ sizeLine ∧ St 0 s2.heap ∧ (∀ b ∈ fp, b < s2.heap.objs.size) ∧
      QuietOnC W.prog W.w A env sc cl x [] el wr P (fun _ => true) (CompF f) s2 ∧
      (∀ D h' tk ys (vs : List Value), s2.heap.get? D = none → h'.IsList D ys → h'.PlainList D ys → vs.length = n → (∀ j v, vs[j]? = some v → P j v) → Paired (CompF f) (vs.filter fun _ => true) ys.toList →
        (∀ b o, b ∉ wr → s2.heap.get? b = some o → h'.get? b = some o) → Q (.ref D) { s2 with heap := h', toks := tk }) := by
  refine ⟨I, fp, wr, xs.length, P, St, rfl, S.walks, S.size, S.start, S.below, comp_quiet helt C hi ho H hcl (fun i v h => ?_) S.old q, fun D h' tk ys vs hD _ hp hl hP hF hk => ?_⟩
  · obtain ⟨y, t, e, rfl⟩ := S.item i v h
    exact ⟨y, t, List.mem_of_getElem? e, rfl⟩
  · obtain ⟨a, b, c⟩ := comp_made S H.heap hD hp hl hP hF hk
    have := hQ D h' tk a b c
    obtain ⟨tk', e⟩ := S.same
    rw [e]
    exact this
theorem free_cells {T : Tx} {env : Env} {sc : Scope} {k : Nat} {x : Str} (C : CompOk T sc k x) (E : EnvS T env) : ∃ cl, closureFor sc env = pure cl ∧ ∀ z, sc.names.lookup z = some .free → cl.lookup z = env.cells.lookup z :=
  clos_ok fun y hy e => (E.top C.top).2 y.1 (C.free y hy e)
theorem map_range (n : Int) (f : Nat → Int) : ((List.range (n - 0).toNat).map fun i : Nat => (0 : Int) + i).map (fun x => f x.toNat) = (List.range n.toNat).map f := by
  rw [List.map_map]
  simp only [Int.sub_zero]
  refine List.map_congr_left fun i _ => ?_
  simp
include hW in
theorem range1_ok {T : Tx} {env : Env} {A : Around} {s : Shared} {φ : List Addr} {hp : List O} {l : Loc} {e : X} {y : Expr} {f : Str} {pf pc : Pos} (he : PX W e) (H : Here W T env A s φ hp l) (hf : f ∈ rangeNames) (hg : T.isGlob f = true) (h1 : isX T e y = true) (ho : okX W.pc false e = true) (hs : ∀ z p, y ≠ .Starred z p)
    {Q : Value → Shared → Prop} {Q' : QE} (q : wX W.G W.gs e l hp Q')
    (hQ : ∀ s1 φ1 hp1 u r t v, Ext s s1 φ φ1 → HeapRep φ1 hp1 s1.heap → Q' u hp1 → (∀ n, u = .int n → ∃ t', IsRange s1.heap r 0 n 1 t t' v) → (∃ n, u = .int n) → Q (.ref r) s1)
    (hu : ∀ u hp1, Q' u hp1 → ∃ n, u = .int n) : wpAny W.M A (eval (.Call (.Name f pf) [y] [] pc) env) Q No s := by
  refine wpK.any (wpK.CallName (wpK.of_any (H.global hW hg (hW.base.rng f hf) ?_)))
  refine wpK.callWith_bi (fun a h => by cases h) (by rw [starEach_plain hs]; rfl) ?_
  rw [starEach_plain hs]
  refine wpK.spliced_cons (x := eval y env) (rest := []) (((he false T env y A s φ hp l h1 ho H).1 _ q).mono fun v s1 q1 => wpK.spliced_nil ?_)
  obtain ⟨φ1, hp1, u, x1, H1, r1, q1⟩ := q1
  obtain ⟨n, rfl⟩ := hu u hp1 q1
  obtain ⟨t, rfl⟩ := r1
  refine wpK.of_any (call_range_1 (hQ _ φ1 hp1 (.int n) _ s1.toks (s1.toks + 1) (x1.trans (Ext.kept (fun b o e => Heap.get?_push_of_some _ e) rfl rfl)) (H1.mono fun b o e => Heap.get?_push_of_some _ e) q1 (fun m e => ?_) ⟨n, rfl⟩))
  cases e
  exact ⟨t, IsRange.new _ _ _ _ _ _ _⟩
include hW in
theorem px_compR (k : Nat) (e elt : X) (he : PX W e) (helt : PX W elt) : PX W (.compR k e elt) := by
  intro k' T env ex A s φ hp l hi ho H
  refine isX_compR hi ?_
  rintro el x px f pf y pc sc pl rfl hf hg h1 hc h2
  replace ho := and_inv ho
  have C := okComp_inv hc
  refine ⟨fun Q q => ?_, fun Q q hk => ?_⟩
  · skip
    obtain ⟨cl, hclos, hcl⟩ := free_cells C H.es
    have hs : ∀ z p, y ≠ .Starred z p := by
      rintro z p rfl
      exact isX_star h1
    refine wpK.of_any ?_
    refine listComp_in hclos C.nocell C.fn C.locs C.loc ?_ (fun _ => rfl)
    refine range1_ok hW he H hf hg h1 ho.1 hs q (fun s1 φ1 hp1 u r t v x1 H1 q1 hr hu => ?_) (fun u hp1 q1 => ?_)
    · obtain ⟨n, rfl⟩ := hu
      obtain ⟨t', hr⟩ := hr n rfl
      simp only at q1
      refine bc fun no => ?_
      obtain ⟨hn, g, qe, qQ⟩ := q1
      refine no ?_
      refine src_range (W := W) H.room.handled hr (by decide) hn fun s2 I fp wr P St S _ => ?_
      refine ⟨CompF fun z => g z.toNat, comp_eval (f := fun z => g z.toNat) (Q := EPost φ s Q) helt S C h2 ho.2 (H.step x1 H1) hcl (fun z hz => ?_) (fun D h' tk a b c => ?_)⟩
      · simp only [List.mem_map, List.mem_range] at hz
        obtain ⟨i, hi', rfl⟩ := hz
        have := qe i (by omega)
        simpa using this
      · refine EPost.from x1 (EPost.made H1 c rfl rfl a b ?_)
        rw [map_range]; exact qQ
    · revert q1
      cases u <;> simp
  · exact False.elim q
theorem px_compL (k : Nat) (e elt : X) (he : PX W e) (helt : PX W elt) : PX W (.compL k e elt) := by
  intro k' T env ex A s φ hp l hi ho H
  refine isX_compL hi ?_
  rintro el x px z pz sc pl rfl h1 hc h2
  replace ho := and_inv ho
  have C := okComp_inv hc
  refine ⟨fun Q q => ?_, fun Q q hk => ?_⟩
  · skip
    refine bc fun no => ?_
    obtain ⟨cl, hclos, hcl⟩ := free_cells C H.es
    refine no ?_
    refine wpK.of_any (listComp_in hclos C.nocell C.fn C.locs C.loc ((((he false T env _ A s φ hp l h1 ho.1 H).1 _ q).mono fun v s1 q1 => ?_).any) (fun _ => rfl))
    refine bc fun no => ?_
    obtain ⟨φ1, hp1, u, x1, H1, r1, q1⟩ := q1
    refine no ?_
    induction u with
    | ref n =>
      refine bc fun no => ?_
      obtain ⟨a, ea, rfl⟩ := r1
      refine no ?_
      simp only at q1
      split at q1
      · rename_i xs hxs
        refine bc fun no => ?_
        obtain ⟨hn, g, qe, qQ⟩ := q1
        refine no ?_
        refine src_list (W := W) H.room.handled (H1.at ea hxs) hn fun s2 I fp wr P St S _ => ?_
        refine ⟨CompF g, comp_eval (f := g) (Q := EPost φ s Q) helt S C h2 ho.2 (H.step x1 H1) hcl qe (fun D h' tk a b c => ?_)⟩
        exact EPost.from x1 (EPost.made H1 c rfl rfl a b qQ)
      · exact q1.elim
    | _ => exact q1.elim
  · exact False.elim q
end
mutual
theorem all_X {W : Wld} (hW : W.Ok) : ∀ x, PX W x
  | .loc k => px_loc k
  | .gv g => px_gv hW g
  | .int i => px_int i
  | .none => px_none
  | .bool b => px_bool b
  | .bin op a b => px_bin op a b (all_X hW a) (all_X hW b)
  | .neg a => px_neg a (all_X hW a)
  | .cmp op a b => px_cmp op a b (all_X hW a) (all_X hW b)
  | .and xs => px_and xs (all_XL hW xs)
  | .or xs => px_or xs (all_XL hW xs)
  | .not a => px_not a (all_X hW a)
  | .ite c a b => px_ite c a b (all_X hW c) (all_X hW a) (all_X hW b)
  | .idx a i => px_idx a i (all_X hW a) (all_X hW i)
  | .slc a lo hi st => px_slc a lo hi st (all_X hW a) (all_X hW lo) (all_X hW hi) (all_X hW st)
  | .list xs => px_list xs (all_XL hW xs)
  | .call c pos kw => px_call hW c pos kw (all_XL hW pos) (all_XL hW kw)
  | .bi b xs => px_bi hW b xs (all_XL hW xs)
  | .compR k e elt => px_compR hW k e elt (all_X hW e) (all_X hW elt)
  | .compL k e elt => px_compL k e elt (all_X hW e) (all_X hW elt)
theorem all_XL {W : Wld} (hW : W.Ok) : ∀ xs, PXL W xs
  | .nil => pxl_nil
  | .cons x xs => pxl_cons x xs (all_X hW x) (all_XL hW xs)
end
end Mine
end
section
open PySem PyProof.Rows
open Sem (wp)
namespace Mine
local macro_rules | `(tactic| omega) => `(tactic| first | assumption | lia | omega +splitDisjunctions)
theorem obj_ne_ns {h : Heap} {a b : Addr} {o : O} {m : Str → Option Value} (x : ObjIs h a o) (n : h.Ns b m) : a ≠ b := by
  rintro rfl
  obtain ⟨ob, es, ep, e, d, _⟩ := n
  induction o with
  | nums l => obtain ⟨vs, ⟨k, e'⟩, _⟩ := x; rw [e] at e'; cases e'; cases d
  | bytes l => obtain ⟨vs, e', _⟩ := x; rw [e] at e'; cases e'; cases d
theorem obj_ne_cell {h : Heap} {a b : Addr} {o : O} {v : Option Value} (x : ObjIs h a o) (n : h.IsCell b v) : a ≠ b := by
  rintro rfl
  obtain ⟨ob, e, d⟩ := n
  induction o with
  | nums l => obtain ⟨vs, ⟨k, e'⟩, _⟩ := x; rw [e] at e'; cases e'; cases d
  | bytes l => obtain ⟨vs, e', _⟩ := x; rw [e] at e'; cases e'; cases d
theorem ns_ne_cell {h : Heap} {a b : Addr} {m : Str → Option Value} {v : Option Value} (x : h.Ns a m) (n : h.IsCell b v) : a ≠ b := by
  rintro rfl
  obtain ⟨ob, e, d⟩ := n
  obtain ⟨ob', es, ep, e', d', _⟩ := x
  rw [e] at e'; cases e'; rw [d] at d'; cases d'
structure Frame (W : Wld) (T : Tx) (env : Env) (A : Around) : Prop where
  es : EnvS T env
  cf : T.cf = W.G.map (·.1)
  gn : T.gn = W.gn
  room : Room W.n A
  apart : env.cells.Pairwise fun x y => x.2 ≠ y.2
  kinds : ∀ (k : Nat) x, T.ns[k]? = some (some x) → env.kindOf x = some .local ∨ env.kindOf x = some .cell ∧ ∃ c, env.cells.lookup x = some c
  inj : ∀ (j k : Nat) x, T.ns[j]? = some (some x) → T.ns[k]? = some (some x) → j = k
noncomputable abbrev KM := Addr → Option Obj
structure Sim (W : Wld) (T : Tx) (env : Env) (K : KM) (φ0 : List Addr) (s0 : Shared) (st : St) (φ : List Addr) (s : Shared) : Prop where
  hb : ∀ b o, W.hb.get? b = some o → K b = some o
  keep : ∀ b o, K b = some o → s.heap.get? b = some o
  gens : s.gens = s0.gens
  os : s.os = s0.os
  drawn : s.drawn = s0.drawn
  pre : φ0 <+: φ
  gv : W.GV φ0
  heap : HeapRep φ st.hp s.heap
  own : ∀ (j : Nat) a, φ0.length ≤ j → φ[j]? = some a → K a = none
  loc : LR T env φ st.loc s.heap
  ns : ∃ m, s.heap.Ns env.locals m
  nsK : K env.locals = none
  cell : ∀ x c, env.cells.lookup x = some c → (∃ v, s.heap.IsCell c v) ∧ K c = none
section
variable {W : Wld} {T : Tx} {env : Env} {A : Around} {K : KM} {φ0 : List Addr} {s0 : Shared} {st : St} {φ : List Addr} {s : Shared}
theorem Sim.here (X : Sim W T env K φ0 s0 st φ s) (F : Frame W T env A) : Here W T env A s φ st.hp st.loc :=
  ⟨F.es, F.cf, F.gn, F.room, fun b o e => X.keep b o (X.hb b o e), X.gv.mono X.pre, X.heap, X.loc⟩
theorem Sim.step (X : Sim W T env K φ0 s0 st φ s) {s' : Shared} {φ' : List Addr} {hp' : List O} (x : Ext s s' φ φ') (H : HeapRep φ' hp' s'.heap) : Sim W T env K φ0 s0 ⟨st.loc, hp'⟩ φ' s' := by
  obtain ⟨m, hm⟩ := X.ns
  refine ⟨X.hb, fun b o e => x.keep b o (X.keep b o e), x.gens.trans X.gens, x.os.trans X.os, x.drawn.trans X.drawn, X.pre.trans x.pre, X.gv, H, fun j a hj e => ?_, X.loc.mono x.pre x.keep, ⟨m, hm.keeps x.keep⟩, X.nsK, fun y c hc => ?_⟩
  · rcases Nat.lt_or_ge j φ.length with h | h
    · obtain ⟨t, rfl⟩ := x.pre
      rw [List.getElem?_append_left h] at e
      exact X.own j a hj e
    · have := x.new j a h e
      induction hK : K a with
      | none => rfl
      | some o => rw [X.keep a o hK] at this; cases this
  · obtain ⟨⟨v, hv⟩, hk⟩ := X.cell y c hc
    exact ⟨⟨v, hv.keeps x.keep⟩, hk⟩
theorem Sim.tok (X : Sim W T env K φ0 s0 st φ s) (t : Nat) : Sim W T env K φ0 s0 st φ { s with toks := t } :=
  ⟨X.hb, X.keep, X.gens, X.os, X.drawn, X.pre, X.gv, X.heap, X.own, X.loc, X.ns, X.nsK, X.cell⟩
theorem Sim.move (X : Sim W T env K φ0 s0 st φ s) {h' : Heap} {tk : Nat} (wr : List Addr) (hk : ∀ b o, b ∉ wr → s.heap.get? b = some o → h'.get? b = some o)
    (hK : ∀ b ∈ wr, K b = none) (hφ : ∀ a ∈ φ, a ∉ wr) (hL : env.locals ∉ wr) (hC : ∀ x c, env.cells.lookup x = some c → c ∉ wr) : Sim W T env K φ0 s0 st φ { s with heap := h', toks := tk } := by
  obtain ⟨m, hm⟩ := X.ns
  have hm' : h'.Ns env.locals m := hm.at' fun o e => hk _ o hL e
  refine ⟨X.hb, fun b o e => hk b o (fun hb => by rw [hK b hb] at e; cases e) (X.keep b o e), X.gens, X.os, X.drawn, X.pre, X.gv, ⟨X.heap.len, X.heap.nodup, fun j a o e q => ?_⟩, X.own, fun k x v h1 h2 => ?_, ⟨m, hm'⟩, X.nsK, fun y c hc => ?_⟩
  · have hob := X.heap.objs j a o e q
    have ha := hφ a (List.mem_of_getElem? e)
    induction o with
    | nums l => obtain ⟨vs, ⟨n, e⟩, i⟩ := hob; exact ⟨vs, ⟨n, hk _ _ ha e⟩, i⟩
    | bytes l => obtain ⟨b, e, r⟩ := hob; exact ⟨b, hk _ _ ha e, r⟩
  · obtain ⟨w, r, R⟩ := X.loc k x v h1 h2
    refine ⟨w, r, ?_⟩
    rcases R with ⟨a, m, n, e⟩ | ⟨a, c, n, ⟨o, e1, e2⟩⟩
    · exact .inl ⟨a, m, n.at' fun o e => hk _ o hL e, e⟩
    · exact .inr ⟨a, c, n, ⟨o, hk _ o (hC x c n) e1, e2⟩⟩
  · obtain ⟨⟨v, ⟨o, e1, e2⟩⟩, hk'⟩ := X.cell y c hc
    exact ⟨⟨v, ⟨o, hk _ o (hC y c hc) e1, e2⟩⟩, hk'⟩
theorem Sim.put (X : Sim W T env K φ0 s0 st φ s) {h' : Heap} {tk : Nat} {r : Nat} {a : Addr} {o : O} (hr : φ0.length ≤ r) (e : φ[r]? = some a) (hs : Heap.SameBut a s.heap h') (i : ObjIs h' a o) :
    Sim W T env K φ0 s0 ⟨st.loc, st.hp.set r o⟩ φ { s with heap := h', toks := tk } := by
  have hKa := X.own r a hr e
  have hlen : r < st.hp.length := by rw [← X.heap.len]; exact (List.getElem?_eq_some_iff.mp e).1
  have hob := X.heap.objs r a st.hp[r] e (by simp)
  obtain ⟨m, hm⟩ := X.ns
  refine ⟨X.hb, fun b o e' => hs.extBut b o (by rintro rfl; rw [hKa] at e'; cases e') (X.keep b o e'), X.gens, X.os, X.drawn, X.pre, X.gv, X.heap.put e hs i, X.own, fun k x v h1 h2 => ?_, ⟨m, hm.sameBut hs (obj_ne_ns hob hm).symm⟩, X.nsK, fun y c hc => ?_⟩
  · obtain ⟨w, r, R⟩ := X.loc k x v h1 h2
    refine ⟨w, r, ?_⟩
    rcases R with ⟨a, m, n, e⟩ | ⟨a, c, n, e⟩
    · exact .inl ⟨a, m, n.sameBut hs (obj_ne_ns hob n).symm, e⟩
    · exact .inr ⟨a, c, n, e.sameBut hs (obj_ne_cell hob e).symm⟩
  · obtain ⟨⟨v, hv⟩, hk⟩ := X.cell y c hc
    exact ⟨⟨v, hv.sameBut hs (obj_ne_cell hob hv).symm⟩, hk⟩
theorem Sim.weaken (X : Sim W T env K φ0 s0 st φ s) {K' : KM} (h : ∀ b o, K' b = some o → K b = some o) (hb : ∀ b o, W.hb.get? b = some o → K' b = some o) : Sim W T env K' φ0 s0 st φ s := by
  have hn : ∀ b, K b = none → K' b = none := fun b e => by
    induction e' : K' b with
    | none => rfl
    | some o => rw [h b o e'] at e; cases e
  exact ⟨hb, fun b o e => X.keep b o (h b o e), X.gens, X.os, X.drawn, X.pre, X.gv, X.heap, fun j a hj e => hn a (X.own j a hj e), X.loc, X.ns, hn _ X.nsK, fun y c hc => ⟨(X.cell y c hc).1, hn _ (X.cell y c hc).2⟩⟩
open Classical in
noncomputable def protect (env : Env) (n : Nat) (φ : List Addr) (h : Heap) : KM := fun b =>
  if b = env.locals ∨ (∃ x, env.cells.lookup x = some b) ∨ (∃ j, n ≤ j ∧ φ[j]? = some b) then none else h.get? b
theorem protect_le {n : Nat} {h : Heap} {b : Addr} {o : Obj} (e : protect env n φ h b = some o) : h.get? b = some o := by
  unfold protect at e
  split at e
  · cases e
  · exact e
theorem protect_some {n : Nat} {h : Heap} {b : Addr} {o : Obj} (e : h.get? b = some o) (h1 : b ≠ env.locals) (h2 : ∀ x, env.cells.lookup x ≠ some b) (h3 : ∀ j, n ≤ j → φ[j]? ≠ some b) : protect env n φ h b = some o := by
  unfold protect
  rw [if_neg]
  · exact e
  · rintro (h | ⟨x, h⟩ | ⟨j, hj, h⟩)
    · exact h1 h
    · exact h2 x h
    · exact h3 j hj h
theorem Sim.le_protect (X : Sim W T env K φ0 s0 st φ s) {b : Addr} {o : Obj} (e : K b = some o) : protect env φ0.length φ s.heap b = some o := by
  refine protect_some (X.keep b o e) ?_ ?_ ?_
  · rintro rfl; rw [X.nsK] at e; cases e
  · intro x h; rw [(X.cell x b h).2] at e; cases e
  · intro j hj h; rw [X.own j b hj h] at e; cases e
theorem Sim.protected (X : Sim W T env K φ0 s0 st φ s) : Sim W T env (protect env φ0.length φ s.heap) φ0 s0 st φ s := by
  refine ⟨fun b o e => X.le_protect (X.hb b o e), fun b o e => protect_le e, X.gens, X.os, X.drawn, X.pre, X.gv, X.heap, fun j a hj e => ?_, X.loc, X.ns, ?_, fun y c hc => ⟨(X.cell y c hc).1, ?_⟩⟩
  · unfold protect; rw [if_pos (.inr (.inr ⟨j, hj, e⟩))]
  · unfold protect; rw [if_pos (.inl rfl)]
  · unfold protect; rw [if_pos (.inr (.inl ⟨y, hc⟩))]
theorem Sim.store (X : Sim W T env K φ0 s0 st φ s) (F : Frame W T env A) {k : Nat} {x : Str} (hk : T.ns[k]? = some (some x)) {v : V} {w : Value} (r : Rep φ v w) {E : Value → Shared → Prop} {Q : Unit → Shared → Prop}
    (q : ∀ s', Sim W T env K φ0 s0 ⟨st.loc.set k v, st.hp⟩ φ s' → (∃ tk, s' = { s with heap := s'.heap, toks := tk }) → (∀ b o, b ≠ env.locals → (∀ x, env.cells.lookup x ≠ some b) → s.heap.get? b = some o → s'.heap.get? b = some o) → Q () s') : wpAny W.M A (storeName env x w) Q E s := by
  obtain ⟨m, hm⟩ := X.ns
  rcases F.kinds k x hk with hl | ⟨hc, c, hcc⟩
  · refine wpAny_storeName_local hl hm (fun h' hn hs => q _ ⟨X.hb, fun b o e => hs.extBut b o (by rintro rfl; rw [X.nsK] at e; cases e) (X.keep b o e), X.gens, X.os, X.drawn, X.pre, X.gv, ⟨X.heap.len, X.heap.nodup, fun j a o e q => ?_⟩, X.own, fun j y u h1 h2 => ?_, ⟨_, hn⟩, X.nsK, fun y c hc => ?_⟩ ⟨_, rfl⟩ fun b o hb _ e => hs.extBut b o hb e) (by rw [F.es.fn]; rfl)
    · have hob := X.heap.objs j a o e q
      have hne := obj_ne_ns hob hm
      induction o with
      | nums l => obtain ⟨vs, ⟨n, e⟩, i⟩ := hob; exact ⟨vs, ⟨n, hs.extBut _ _ hne e⟩, i⟩
      | bytes l => obtain ⟨b, e, r⟩ := hob; exact ⟨b, hs.extBut _ _ hne e, r⟩
    · by_cases hj : j = k
      · subst hj
        rw [hk] at h1; cases h1
        simp only [Loc.set, if_pos, Option.some.injEq] at h2
        subst h2
        exact ⟨w, r, .inl ⟨hl, _, hn, by simp⟩⟩
      · simp only [Loc.set, if_neg hj] at h2
        obtain ⟨w', r', R⟩ := X.loc j y u h1 h2
        refine ⟨w', r', ?_⟩
        rcases R with ⟨a, m', n, e⟩ | ⟨a, c, n, e⟩
        · have hyx : y ≠ x := by rintro rfl; exact hj (F.inj j k y h1 hk)
          have hmm : m' y = m y := by
            obtain ⟨o, es, ep, e1, e2, e3, e4⟩ := n
            obtain ⟨o', es', ep', e1', e2', e3', e4'⟩ := hm
            rw [e1] at e1'; cases e1'; rw [e2] at e2'; cases e2'
            rw [← e4, ← e4']
          exact .inl ⟨a, _, hn, by simp [hyx, ← hmm, e]⟩
        · exact .inr ⟨a, c, n, e.sameBut hs (ns_ne_cell hm e).symm⟩
    · obtain ⟨⟨v, hv⟩, hk⟩ := X.cell y c hc
      exact ⟨⟨v, hv.sameBut hs (ns_ne_cell hm hv).symm⟩, hk⟩
  · obtain ⟨⟨v0, hv0⟩, hKc⟩ := X.cell x c hcc
    refine wpAny_storeName_cell F.es.fn hc hcc hv0 (fun h' hn hs => q _ ⟨X.hb, fun b o e => hs.extBut b o (by rintro rfl; rw [hKc] at e; cases e) (X.keep b o e), X.gens, X.os, X.drawn, X.pre, X.gv, ⟨X.heap.len, X.heap.nodup, fun j a o e q => ?_⟩, X.own, fun j y u h1 h2 => ?_, ⟨m, hm.sameBut hs (ns_ne_cell hm hv0)⟩, X.nsK, fun y c' hc' => ?_⟩ ⟨s.toks, rfl⟩ fun b o hb hb' e => hs.extBut b o (fun h => hb' x (h ▸ hcc)) e)
    · have hob := X.heap.objs j a o e q
      have hne := obj_ne_cell hob hv0
      induction o with
      | nums l => obtain ⟨vs, ⟨n, e⟩, i⟩ := hob; exact ⟨vs, ⟨n, hs.extBut _ _ hne e⟩, i⟩
      | bytes l => obtain ⟨b, e, r⟩ := hob; exact ⟨b, hs.extBut _ _ hne e, r⟩
    · by_cases hj : j = k
      · subst hj
        rw [hk] at h1; cases h1
        simp only [Loc.set, if_pos, Option.some.injEq] at h2
        subst h2
        exact ⟨w, r, .inr ⟨hc, c, hcc, hn⟩⟩
      · simp only [Loc.set, if_neg hj] at h2
        obtain ⟨w', r', R⟩ := X.loc j y u h1 h2
        refine ⟨w', r', ?_⟩
        rcases R with ⟨a, m', n, e⟩ | ⟨a, c', n, e⟩
        · exact .inl ⟨a, m', n.sameBut hs (ns_ne_cell n hv0), e⟩
        · have hyx : y ≠ x := by rintro rfl; exact hj (F.inj j k y h1 hk)
          exact .inr ⟨a, c', n, e.sameBut hs fun h => hyx (name_of_addr F.apart (mem_of_lookup n) (h ▸ mem_of_lookup hcc))⟩
    · by_cases hcc' : c' = c
      · subst hcc'; exact ⟨⟨_, hn⟩, hKc⟩
      · obtain ⟨⟨v, hv⟩, hk⟩ := X.cell y c' hc'
        exact ⟨⟨v, hv.sameBut hs hcc'⟩, hk⟩
theorem Sim.view (X : Sim W T env K φ0 s0 st φ s) {ρ : List Nat} {st' : St} (v : View φ0.length ρ st st') : ∃ φ', Sim W T env K φ0 s0 st' φ' s ∧ ∀ (j : Nat) a, φ'[j]? = some a ↔ ∃ i, ρ[j]? = some i ∧ φ[i]? = some a := by
  have key : ∀ (j : Nat) a, (ρ.map fun i => φ.getD i 0)[j]? = some a ↔ ∃ i, ρ[j]? = some i ∧ φ[i]? = some a := by
    intro j a
    rw [List.getElem?_map]
    induction hj : ρ[j]? with
    | none => simp
    | some i =>
      obtain ⟨o, e, _⟩ := v.objs j i hj
      have hlt : i < φ.length := by rw [X.heap.len]; exact (List.getElem?_eq_some_iff.mp e).1
      simp [List.getD_eq_getElem?_getD, hlt]
  have big : ∀ (j i : Nat), φ0.length ≤ j → ρ[j]? = some i → φ0.length ≤ i := fun j i hj hi => by
    rcases Nat.lt_or_ge i φ0.length with h | h
    · have h1 := v.pre i h
      have := (List.getElem?_inj (by exact (List.getElem?_eq_some_iff.mp h1).1) v.nodup).mp (h1.trans hi.symm)
      omega
    · exact h
  refine ⟨_, ⟨X.hb, X.keep, X.gens, X.os, X.drawn, ?_, X.gv, ⟨?_, ?_, fun j a o e q => ?_⟩, fun j a hj e => ?_, fun k x u h1 h2 => ?_, X.ns, X.nsK, X.cell⟩, key⟩
  · obtain ⟨t, ht⟩ := X.pre
    rw [List.prefix_iff_getElem?]
    intro i hi
    rw [key]
    refine ⟨i, v.pre i hi, ?_⟩
    rw [← ht, List.getElem?_append_left hi]
    simp
  · rw [List.length_map]; exact v.len
  · rw [List.nodup_iff_pairwise_ne, List.pairwise_iff_getElem]
    intro i j hi hj hij e
    have h1 := (key i _).mp (List.getElem?_eq_getElem hi)
    have h2 := (key j _).mp (List.getElem?_eq_getElem hj)
    obtain ⟨i', e1, e2⟩ := h1
    obtain ⟨j', e3, e4⟩ := h2
    rw [← e] at e4
    have := (List.getElem?_inj (List.getElem?_eq_some_iff.mp e2).1 X.heap.nodup).mp (e2.trans e4.symm)
    subst this
    have := (List.getElem?_inj (List.getElem?_eq_some_iff.mp e1).1 v.nodup).mp (e1.trans e3.symm)
    omega
  · obtain ⟨i, e1, e2⟩ := (key j a).mp e
    obtain ⟨o', e3, e4⟩ := v.objs j i e1
    rw [e4] at q; cases q
    exact X.heap.objs i a _ e2 e3
  · refine bc fun no => ?_
    obtain ⟨i, e1, e2⟩ := (key j a).mp e
    refine no ?_
    exact X.own i a (big j i hj e1) e2
  · have := v.locs k u h2
    induction u with
    | ref j =>
      obtain ⟨i, e1, e2⟩ := this
      refine bc fun no => ?_
      obtain ⟨w, ⟨a, r1, rfl⟩, R⟩ := X.loc k x _ h1 e2
      refine no ?_
      exact ⟨_, ⟨a, (key j a).mpr ⟨i, e1, r1⟩, rfl⟩, R⟩
    | _ =>
      obtain ⟨w, r, R⟩ := X.loc k x _ h1 this
      exact ⟨w, r, R⟩
end
end Mine
end
section
open PySem PyProof.Rows
open Sem (wp)
namespace Mine
noncomputable def FlowIs (φ : List Addr) (h : Heap) : Fl → Flow → Prop
  | .next, f => f = .next
  | .ret r, f => ∃ v, f = .ret v ∧ ResRep φ h r v
inductive SPost (W : Wld) (T : Tx) (env : Env) (K : KM) (φ0 : List Addr) (s0 : Shared) (Q : QS) (f : Flow) (s : Shared) : Prop
  | mk (φ : List Addr) (st : St) (fl : Fl) (x : Sim W T env K φ0 s0 st φ s) (y : FlowIs φ s.heap fl f) (q : Q fl st)
noncomputable def PS (W : Wld) (x : S) : Prop := ∀ k T env A K φ0 s0 st φ s stm Q, isS T x stm = true → okS W.pc k x = true → Frame W T env A → Sim W T env K φ0 s0 st φ s → wS W.G W.gs φ0.length x st Q →
  wpK k W.M A (exec stm env) (SPost W T env K φ0 s0 Q) s
noncomputable def PSL (W : Wld) (x : SL) : Prop := ∀ k T env A K φ0 s0 st φ s stms Q, isSL T x stms = true → okSL W.pc k x = true → Frame W T env A → Sim W T env K φ0 s0 st φ s → wSL W.G W.gs φ0.length x st Q →
  wpK k W.M A (execs stms env) (SPost W T env K φ0 s0 Q) s
theorem psl_nil {W : Wld} : PSL W .nil := by
  intro k T env A K φ0 s0 st φ s stms Q hi ho F X q
  obtain rfl := isSL_nil hi
  exact wpK.execs_nil ⟨φ, st, .next, X, rfl, q⟩
theorem psl_cons {W : Wld} (x : S) (xs : SL) (hx : PS W x) (hxs : PSL W xs) : PSL W (.cons x xs) := by
  intro k T env A K φ0 s0 st φ s stms Q hi ho F X q
  refine isSL_cons hi ?_
  rintro t ts rfl h1 h2
  have ho := and_inv ho
  refine wpK.execs_cons ((hx k T env A K φ0 s0 st φ s t _ h1 ho.1 F X q).mono fun f s1 h1 => ?_)
  refine bc fun no => ?_
  obtain ⟨φ1, st1, fl, X1, hf, q1⟩ := h1
  refine no ?_
  induction fl with
  | next =>
    cases hf
    exact hxs k T env A K φ0 s0 st1 φ1 s1 ts Q h2 ho.2 F X1 q1
  | ret r =>
    obtain ⟨v, rfl, hr⟩ := hf
    exact ⟨φ1, st1, .ret r, X1, ⟨v, rfl, hr⟩, q1⟩
theorem slot_inv {T : Tx} {k : Nat} {x : Str} (h : T.isSlot k x = true) : T.ns[k]? = some (some x) ∧ (x == ("__debug__" : Str)) = false := by
  unfold Tx.isSlot at h
  rw [Bool.and_eq_true] at h
  exact ⟨by simpa using h.1, by simpa using h.2⟩
theorem swaps_false {T : Tx} {x : X} {e : Expr} (h : isX T x e = true) (hc : isComp x = false) (t : Option Expr) (ln : Nat) (env : Env) : swapsWith e t ln env = pure false := by
  cases e <;> first | rfl | skip
  · cases x <;> first | (cases h; done) | (cases hc; done)
  · cases x <;> first | (cases h; done) | (cases hc; done)
  · cases x <;> first | (cases h; done) | (cases hc; done)
section
variable {W : Wld} (hW : W.Ok)
include hW in
theorem ps_assign (k : Nat) (e : X) : PS W (.assign k e) := by
  intro k' T env A K φ0 s0 st φ s stm Q hi ho F X q
  refine isS_assign hi ?_
  rintro x px v p rfl hs hc hx
  skip
  skip
  refine wpK.AssignName (((all_X hW e k' T env v A s φ st.hp st.loc hx ho (X.here F)).1 _ q).mono fun w s1 q1 => ?_) (swaps_false hx hc _ _ _)
  refine bc fun no => ?_
  obtain ⟨φ1, hp1, u, x1, H1, r1, q1⟩ := q1
  refine no ?_
  exact wpK.of_any ((X.step x1 H1).store F (slot_inv hs).1 r1 fun s' X' _ _ => ⟨φ1, _, .next, X', rfl, q1⟩)
theorem names_ok {T : Tx} {env : Env} {A : Around} (F : Frame W T env A) {K : KM} {φ0 : List Addr} {s0 : Shared} {φ : List Addr} {hp : List O} {E : Value → Shared → Prop} {Q : Unit → Shared → Prop} : ∀ {ks : List Nat} {ts : List Expr} {us : List V} {vs : List Value} {l : Loc} {s : Shared},
    isNames T ks ts = true → Reps φ us vs → us.length = ks.length → Sim W T env K φ0 s0 ⟨l, hp⟩ φ s → (∀ s', Sim W T env K φ0 s0 ⟨setAll l ks us, hp⟩ φ s' → (∀ b o, b ≠ env.locals → (∀ x, env.cells.lookup x ≠ some b) → s.heap.get? b = some o → s'.heap.get? b = some o) → Q () s') → wpAny W.M A (assignInOrder ((assignEach ts env).map (·.2)) vs) Q E s
  | [], [], [], [], l, s, _, _, _, X, q => wpAny_pure (q s X fun _ _ _ _ e => e)
  | k :: ks, t :: ts, u :: us, v :: vs, l, s, hi, r, hl, X, q => by
    refine isNames_cons hi ?_
    rintro x px _ e hi1 hi2
    cases e
    show wpAny W.M A (do holding vs (assign (.Name x px) env v); assignInOrder ((assignEach ts env).map (·.2)) vs) Q E s
    refine wpAny_bind (wpAny_holding (wpAny_assign_Name (X.store F (slot_inv hi1).1 r.1 fun s' X' _ hk => ?_)))
    exact names_ok F hi2 r.2 (by simpa using hl) X' fun s'' X'' hk' => q s'' X'' fun b o h1 h2 e => hk' b o h1 h2 (hk b o h1 h2 e)
  | [], _ :: _, _, _, _, _, hi, _, _, _, _ => nomatch hi
  | _ :: _, [], _, _, _, _, hi, _, _, _, _ => nomatch hi
  | [], [], _ :: _, _, _, _, _, _, hl, _, _ => by simp at hl
  | _ :: _, _ :: _, [], _, _, _, _, _, hl, _, _ => by simp at hl
  | _, _, [], _ :: _, _, _, _, r, _, _, _ => r.elim
  | _, _, _ :: _, [], _, _, _, r, _, _, _ => r.elim
theorem names_len {T : Tx} {env : Env} : ∀ {ks : List Nat} {ts : List Expr}, isNames T ks ts = true → (assignEach ts env).length = ks.length ∧ (assignEach ts env).findIdx? (·.1) = none
  | [], [], _ => ⟨rfl, rfl⟩
  | k :: ks, t :: ts, hi => by
    refine isNames_cons hi ?_
    rintro x px _ e hi1 hi2
    cases e
    obtain ⟨h1, h2⟩ := names_len (env := env) hi2
    refine ⟨by simp [assignEach, h1], ?_⟩
    show List.findIdx? (·.1) ((false, _) :: assignEach ts env) = none
    rw [List.findIdx?_cons]
    simp [h2]
  | [], _ :: _, hi => nomatch hi
  | _ :: _, [], hi => nomatch hi
include hW in
theorem ps_unpack (ks : List Nat) (c : Nat) (pos kw : XL) : PS W (.unpack ks c pos kw) := by
  intro k' T env A K φ0 s0 st φ s stm Q hi ho F X q
  refine isS_unpack hi ?_
  rintro ts n pt v p rfl hn hx
  refine isX_call hx ?_
  rintro f pf as kss pc C rfl hC hnm hg h1 h2 hl
  skip
  skip
  rw [arm_exec_Assign]
  refine wpK.bind (wpK.standAt ?_)
  show wpK k' W.M A (do
    let v ← eval (.Call (.Name f pf) as kss pc) env
    let x ← swappedStores [.Tuple ts n pt] (.Call (.Name f pf) as kss pc) env
    assignStores env v x ((assignEach [.Tuple ts n pt] env).map (·.2))) _ s
  refine wpK.bind ((call_ok hW (all_XL hW pos) (all_XL hW kw) (X.here F) hC hnm hg h1 h2 hl ho (Q := fun r hp3 => match r with
      | .many tup us => tup = true ∧ us.length = ks.length ∧ Q .next ⟨setAll st.loc ks us, hp3⟩
      | .one _ => False) q).mono fun w s1 q1 => ?_)
  refine bc fun no => ?_
  obtain ⟨φ1, hp1, r, x1, H1, r1, q1⟩ := q1
  refine no ?_
  induction r with
  | one => exact q1.elim
  | many tup us =>
    obtain ⟨rfl, hul, q1⟩ := q1
    refine bc fun no => ?_
    obtain ⟨a, vs, rfl, hr, ht⟩ := r1
    refine no ?_
    simp only at ht
    show wpK k' W.M A (do assign (.Tuple ts n pt) env (.ref a); Pure.pure Flow.next) _ s1
    refine wpK.bind (wpK.of_any ?_)
    have hvl : vs.length = ks.length := by rw [← hr.length]; exact hul
    refine assign_Tuple_tuple F.room.handled ht ?_ (names_len hn).2 fun h' he => ?_
    · rw [(names_len hn).1]; simp [hvl]
    · have X1 := X.step x1 H1
      have X2 : Sim W T env K φ0 s0 ⟨st.loc, hp1⟩ φ1 { s1 with heap := h' } := by
        refine X1.move (tk := s1.toks) [s1.heap.objs.size] (fun b o hb e => he b o (by simpa using hb) e) ?_ ?_ ?_ ?_
        · intro b hb
          simp only [List.mem_cons, List.not_mem_nil, or_false] at hb
          subst hb
          induction e : K s1.heap.objs.size with
          | none => rfl
          | some o => have := X1.keep _ o e; rw [fresh_size] at this; cases this
        · intro b hb
          obtain ⟨ob, e⟩ := H1.there hb
          simpa using Nat.ne_of_lt (Heap.lt_size e)
        · obtain ⟨m, hm⟩ := X1.ns
          simpa using Nat.ne_of_lt hm.lt
        · intro x c hc
          obtain ⟨⟨v, hv⟩, _⟩ := X1.cell x c hc
          simpa using Nat.ne_of_lt hv.lt
      exact names_ok F hn hr (by exact hul) X2 fun s' X' _ => wpK.pure ⟨φ1, _, .next, X', rfl, q1⟩
end
end Mine
end
section
open PySem PyProof.Rows
open Sem (wp)
namespace Mine
section
variable {W : Wld} (hW : W.Ok)
theorem bytes_data {h : Heap} {a : Addr} {l : List Nat} (x : ObjIs h a (.bytes l)) : ∃ b, h.get? a = some (bytesObj b) := let ⟨b, e, _⟩ := x; ⟨b, e⟩
theorem assign_sub {M : Model} {A : Around} {E : Value → Shared → Prop} {s : Shared} {env : Env} {o i : Expr} {pos : Pos} {v : Value} {Q : Unit → Shared → Prop}
    (h : wpAny M A (eval o env) (fun ov s₁ => wpAny M A (eval i env) (fun iv s₂ => wpAny M A (setItem ov iv v) Q E s₂) E s₁) E s) : wpAny M A (assign (.Subscript o i pos) env v) Q E s := by
  rw [assign_Subscript]
  exact wpAny_bind (wpAny_holding (wpAny_mono h (fun ov s₁ h₁ => wpAny_bind (wpAny_holding (wpAny_mono h₁ (fun iv s₂ h₂ => wpAny_bind (wpAny_standAt (wpAny_bind (wpAny_holding (wpAny_mono h₂ (fun _ s₃ h₃ => wpAny_release h₃) fun _ _ x => x))))) fun _ _ x => x))) fun _ _ x => x))
include hW in
theorem ps_setI (a i e : X) : PS W (.setI a i e) := by
  intro k' T env A K φ0 s0 st φ s stm Q hi ho F X q
  refine isS_setI hi ?_
  rintro o sl ps v p rfl hc hx hxa hns hxi
  replace ho := and3_inv ho
  skip
  rw [exec_Assign_Subscript _ _ _ _ _ (swaps_false hx hc _ _ _)]
  refine wpK.bind (wpK.standAt (wpK.bind ((((all_X hW e false T env v A s φ st.hp st.loc hx ho.2 (X.here F)).1 _ q).weak).mono fun w s1 q1 => ?_)))
  obtain ⟨φ1, hp1, u1, x1, H1, r1, q1⟩ := q1
  have X1 := X.step x1 H1
  refine wpK.bind (wpK.of_any (assign_sub ((((all_X hW a false T env o A s1 φ1 hp1 st.loc hxa ho.1.1 (X1.here F)).1 _ q1).mono fun w2 s2 q2 => ?_).any)))
  obtain ⟨φ2, hp2, u2, x2, H2, r2, q2⟩ := q2
  have X2 := X1.step x2 H2
  refine (((all_X hW i false T env sl A s2 φ2 hp2 st.loc hxi ho.1.2 (X2.here F)).1 _ q2).mono fun w3 s3 q3 => ?_).any
  obtain ⟨φ3, hp3, u3, x3, H3, r3, q3⟩ := q3
  have X3 := X2.step x3 H3
  induction u2 with
  | ref r =>
    induction u3 with
    | int j =>
      induction u1 with
      | int x =>
        obtain ⟨a2, e2, rfl⟩ := r2.mono x3.pre
        obtain ⟨t3, rfl⟩ := r3
        obtain ⟨t1, rfl⟩ := r1
        obtain ⟨hr, q3⟩ := q3
        induction hob : hp3[r]? with
        | none => rw [hob] at q3; exact q3.elim
        | some ob =>
          rw [hob] at q3
          induction ob with
          | bytes l =>
            obtain ⟨hb, hz, q3⟩ := q3
            induction hp : pidx j l.length with
            | none => rw [hp] at q3; exact q3.elim
            | some p =>
              rw [hp] at q3
              exact set_bytes (H3.at e2 hob) hz hb hp fun h' ho' hs => wpK.pure ⟨φ3, _, .next, X3.put (tk := s3.toks) hr e2 hs ho', rfl, q3⟩
          | nums l =>
            obtain ⟨hb, hz, q3⟩ := q3
            induction hp : pidx j l.length with
            | none => rw [hp] at q3; exact q3.elim
            | some p =>
              rw [hp] at q3
              exact set_nums (H3.at e2 hob) hz hb hp fun h' ho' hs => wpK.pure ⟨φ3, _, .next, X3.put (tk := s3.toks) hr e2 hs ho', rfl, q3⟩
      | _ => exact q3.elim
    | _ => exact q3.elim
  | _ => exact q3.elim
include hW in
theorem ps_setS (a lo hi e : X) : PS W (.setS a lo hi e) := by
  intro k' T env A K φ0 s0 st φ s stm Q hii ho F X q
  refine isS_setS hii ?_
  rintro o l h ps ps' v p rfl hc hx hxa hxl hxh
  replace ho := and4_inv ho
  skip
  rw [exec_Assign_Subscript _ _ _ _ _ (swaps_false hx hc _ _ _)]
  refine wpK.bind (wpK.standAt (wpK.bind ((((all_X hW e false T env v A s φ st.hp st.loc hx ho.2 (X.here F)).1 _ q).weak).mono fun w s1 q1 => ?_)))
  obtain ⟨φ1, hp1, u1, x1, H1, r1, q1⟩ := q1
  have X1 := X.step x1 H1
  refine wpK.bind (wpK.of_any (assign_sub ((((all_X hW a false T env o A s1 φ1 hp1 st.loc hxa ho.1.1.1 (X1.here F)).1 _ q1).mono fun w2 s2 q2 => ?_).any)))
  obtain ⟨φ2, hp2, u2, x2, H2, r2, q2⟩ := q2
  have X2 := X1.step x2 H2
  refine wpAny_Slice (((part_ok (all_X hW lo) hxl ho.1.1.2 (X2.here F) q2).mono fun w3 s3 q3 => ?_).any)
  obtain ⟨φ3, hp3, u3, x3, H3, r3, q3⟩ := q3
  have X3 := X2.step x3 H3
  refine ((part_ok (all_X hW hi) hxh ho.1.2 (X3.here F) q3).mono fun w4 s4 q4 => ?_).any
  obtain ⟨φ4, hp4, u4, x4, H4, r4, q4⟩ := q4
  have X4 := X3.step x4 H4
  rw [evalPart_none]
  refine wpAny_pure ?_
  have xp : Ext s4 { s4 with heap := s4.heap.push { cls := .type "slice", data := .fields #[w3, w4, .none] } } φ4 φ4 := Ext.kept (fun b o e => Heap.get?_push_of_some _ e) rfl rfl
  have X5 := X4.step xp (H4.mono xp.keep)
  induction u2 with
  | ref r =>
    induction u1 with
    | ref t =>
      obtain ⟨a2, e2, rfl⟩ := (r2.mono x3.pre).mono x4.pre
      obtain ⟨a1, e1, rfl⟩ := ((r1.mono x2.pre).mono x3.pre).mono x4.pre
      induction hl : u3.bound with
      | none => rw [hl] at q4; exact q4.elim
      | some lb =>
        induction hh : u4.bound with
        | none => rw [hl, hh] at q4; exact q4.elim
        | some hb =>
          rw [hl, hh] at q4
          obtain ⟨hr, hrt, q4⟩ := q4
          induction ho1 : hp4[r]? with
          | none => rw [ho1] at q4; exact q4.elim
          | some ob =>
            induction ho2 : hp4[t]? with
            | none => rw [ho1, ho2] at q4; cases ob <;> exact q4.elim
            | some ob2 =>
              rw [ho1, ho2] at q4
              induction ob with
              | nums => exact q4.elim
              | bytes lst =>
                induction ob2 with
                | nums => exact q4.elim
                | bytes m =>
                  refine bc fun no => ?_
                  obtain ⟨c1, c2, c3, c4, c5, q4⟩ := q4
                  refine no ?_
                  have hne : a2 ≠ a1 := by
                    rintro rfl
                    exact hrt ((List.getElem?_inj (List.getElem?_eq_some_iff.mp e2).1 H4.nodup).mp (e2.trans e1.symm))
                  refine setS_bytes (sl := s4.heap.objs.size) hne ((H4.at e2 ho1).mono xp.keep) ((H4.at e1 ho2).mono xp.keep) ⟨_, Heap.get?_push_size _ rfl, rfl, rfl⟩ (isPart_of (r3.mono x4.pre) hl) (isPart_of r4 hh) c1 c2 c3 c4 c5 fun h' ho' hs => wpK.pure ⟨φ4, _, .next, X5.put (tk := s4.toks) hr e2 hs ho', rfl, q4⟩
    | _ => exact q4.elim
  | _ => exact q4.elim
include hW in
theorem ps_augL (k : Nat) (op : Operator) (e : X) : PS W (.augL k op e) := by
  intro k' T env A K φ0 s0 st φ s stm Q hi ho F X q
  refine isS_augL hi ?_
  rintro x px v p rfl hs hx
  obtain ⟨i, hl, q⟩ := augL_inv q
  obtain ⟨w, r, R⟩ := X.loc k x _ (slot_inv hs).1 hl
  refine wpK.of_any (wpAny_AugAssign_Name (R.load F.es.fn ?_))
  refine (((all_X hW e false T env v A s φ st.hp st.loc hx ho (X.here F)).1 _ q).mono fun w2 s2 q2 => ?_).any
  obtain ⟨φ2, hp2, u2, x2, H2, r2, q2⟩ := q2
  induction u2 with
  | int j =>
    obtain ⟨rfl, hi0, hj0, q2⟩ := q2
    obtain ⟨t, rfl⟩ := r
    obtain ⟨t2, rfl⟩ := r2
    refine ixor_int ?_
    rw [bitXor_nat hi0 hj0]
    exact ((X.step x2 H2).tok (s2.toks + 1)).store F (slot_inv hs).1 (v := .int _) ⟨_, rfl⟩ fun s' X' _ _ => ⟨φ2, _, .next, X', rfl, q2⟩
  | _ => exact q2.elim
include hW in
theorem ps_augI (a i : X) (op : Operator) (e : X) : PS W (.augI a i op e) := by
  intro k' T env A K φ0 s0 st φ s stm Q hi ho F X q
  refine isS_augI hi ?_
  rintro o sl ps v p rfl hxa hns hxi hx
  replace ho := and3_inv ho
  skip
  refine wpK.of_any (wpAny_AugAssign_Subscript_any ((((all_X hW a false T env o A s φ st.hp st.loc hxa ho.1.1 (X.here F)).1 _ q).mono fun w1 s1 q1 => ?_).any) ?_)
  rotate_left
  · intro ov iv new
    cases sl <;> first | rfl | (cases hns; done)
  obtain ⟨φ1, hp1, u1, x1, H1, r1, q1⟩ := q1
  have X1 := X.step x1 H1
  refine (((all_X hW i false T env sl A s1 φ1 hp1 st.loc hxi ho.1.2 (X1.here F)).1 _ q1).mono fun w2 s2 q2 => ?_).any
  obtain ⟨φ2, hp2, u2, x2, H2, r2, q2⟩ := q2
  have X2 := X1.step x2 H2
  induction u1 with
  | ref r =>
    induction u2 with
    | int j =>
      obtain ⟨hr, q2⟩ := q2
      induction hob : hp2[r]? with
      | none => rw [hob] at q2; exact q2.elim
      | some ob =>
        rw [hob] at q2
        induction ob with
        | nums => exact q2.elim
        | bytes l =>
          obtain ⟨hz, q2⟩ := q2
          induction hp : pidx j l.length with
          | none => rw [hp] at q2; exact q2.elim
          | some pp =>
            rw [hp] at q2
            simp only [Option.bind_some] at q2
            induction hx' : l[pp]? with
            | none => rw [hx'] at q2; exact q2.elim
            | some xv =>
              rw [hx'] at q2
              simp only at q2
              have hidx : wIdx (.ref r) (.int j) hp2 (fun v hp => v = .int xv ∧ hp = hp2) := by
                simp only [wIdx, hob, hp, Option.bind_some, hx']
                exact ⟨hz, by simp⟩
              obtain ⟨a', T', id, ha', hT, hl, hg⟩ := idx_ok (prog := W.prog) (w := W.w) (A := A) H2 (r1.mono x2.pre) r2 hidx
              refine wpAny_mono hg (fun w3 s3 q3 => ?_) fun _ _ f => f
              obtain ⟨φ3, hp3, u3, x3, H3, r3, rfl, rfl⟩ := q3
              have X3 := X2.step x3 H3
              refine (((all_X hW e false T env v A s3 φ3 hp3 st.loc hx ho.2 (X3.here F)).1 _ q2).mono fun w4 s4 q4 => ?_).any
              obtain ⟨φ4, hp4, u4, x4, H4, r4, q4⟩ := q4
              have X4 := X3.step x4 H4
              induction u4 with
              | int y =>
                obtain ⟨rfl, hy, hb, hob', q4⟩ := q4
                obtain ⟨t3, rfl⟩ := r3
                obtain ⟨t4, rfl⟩ := r4
                obtain ⟨a2, e2, rfl⟩ := ((r1.mono x2.pre).mono x3.pre).mono x4.pre
                obtain ⟨t2, rfl⟩ := r2
                refine ixor_int ?_
                rw [bitXor_nat (Int.natCast_nonneg _) hy, Int.toNat_natCast]
                refine set_bytes (ObjIs.mono (fun _ _ e => e) (H4.at e2 hob')) hz hb hp fun h' ho' hs => ⟨φ4, _, .next, (X4.tok _).put (tk := s4.toks + 1) hr e2 hs ho', rfl, ?_⟩
                simpa using q4
              | _ => exact q4.elim
    | _ => exact q2.elim
  | _ => exact q2.elim
end
end Mine
end
section
open PySem PyProof.Rows
open Sem (wp)
namespace Mine
local macro_rules | `(tactic| omega) => `(tactic| first | assumption | lia | omega +splitDisjunctions)
section
variable {W : Wld} (hW : W.Ok)
include hW in
theorem ps_iff (c : X) (t e : SL) (ht : PSL W t) (he : PSL W e) : PS W (.iff c t e) := by
  intro k' T env A K φ0 s0 st φ s stm Q hi ho F X q
  refine isS_iff hi ?_
  rintro u b o p rfl h0 h1 h2
  replace ho := and3_inv ho
  skip
  refine wpK.If ((((all_X hW c false T env u A s φ st.hp st.loc h0 ho.1.1 (X.here F)).2 _ q rfl).weak).mono fun v s1 q1 => ?_)
  obtain ⟨φ1, hp1, x1, H1, q1⟩ := q1
  have X1 := X.step x1 H1
  induction v with
  | true => exact ht k' T env A K φ0 s0 _ φ1 s1 b Q h1 ho.1.2 F X1 q1
  | false => exact he k' T env A K φ0 s0 _ φ1 s1 o Q h2 ho.2 F X1 q1
include hW in
theorem ps_ret (e : X) : PS W (.ret e) := by
  intro k' T env A K φ0 s0 st φ s stm Q hi ho F X q
  refine isS_ret hi ?_
  rintro v p rfl hx
  skip
  skip
  refine wpK.Return (((all_X hW e k' T env v A s φ st.hp st.loc hx ho (X.here F)).1 _ q).mono fun w s1 q1 => ?_)
  obtain ⟨φ1, hp1, u, x1, H1, r1, q1⟩ := q1
  exact ⟨φ1, _, .ret (.one u), X.step x1 H1, ⟨w, rfl, r1⟩, q1⟩
include hW in
theorem ps_retM (tup : Bool) (xs : XL) : PS W (.retM tup xs) := by
  intro k' T env A K φ0 s0 st φ s stm Q hi ho F X q
  obtain ⟨v, p, rfl, hv⟩ := isS_retM hi
  skip
  skip
  refine wpK.Return ?_
  rcases hv with ⟨es, n, pt, rfl, rfl, hx⟩ | ⟨es, pt, rfl, rfl, hx⟩
  · rw [arm_eval_Tuple]
    refine wpK.bind (wpK.standAt (wpK.bind ((((all_XL hW xs).1 k' T env es A s φ st.hp st.loc pt hx ho (X.here F)).1 _ q).mono fun vs s1 q1 => ?_)))
    obtain ⟨φ1, hp1, us, x1, H1, r1, hz, q1⟩ := q1
    have xp : Ext s1 { s1 with heap := s1.heap.push { cls := .type "tuple", data := .seq vs.toArray } } φ1 φ1 := Ext.kept (fun b o e => Heap.get?_push_of_some _ e) rfl rfl
    refine wpK.of_any (wpAny_newObj_type ⟨φ1, _, .ret (.many true us), (X.step x1 H1).step xp (H1.mono xp.keep), ⟨_, rfl, _, vs, rfl, r1, ⟨_, Heap.get?_push_size _ rfl, rfl, _, rfl⟩⟩, q1⟩ ?_)
    show vs.toArray.size ≤ sizeLine
    have := r1.length
    unfold SZ at hz
    unfold sizeLine
    simp; omega
  · rw [arm_eval_List]
    refine wpK.bind (wpK.standAt (wpK.bind ((((all_XL hW xs).1 k' T env es A s φ st.hp st.loc pt hx ho (X.here F)).1 _ q).mono fun vs s1 q1 => ?_)))
    obtain ⟨φ1, hp1, us, x1, H1, r1, hz, q1⟩ := q1
    have xp : Ext s1 { s1 with heap := s1.heap.push { cls := .type "list", data := .seq vs.toArray } } φ1 φ1 := Ext.kept (fun b o e => Heap.get?_push_of_some _ e) rfl rfl
    refine wpK.of_any (wpAny_newObj_type ⟨φ1, _, .ret (.many false us), (X.step x1 H1).step xp (H1.mono xp.keep), ⟨_, rfl, _, vs, rfl, r1, ⟨_, Heap.get?_push_size _ rfl, rfl, _, rfl⟩⟩, q1⟩ ?_)
    show vs.toArray.size ≤ sizeLine
    have := r1.length
    unfold SZ at hz
    unfold sizeLine
    simp; omega
theorem ps_raise : PS W .raise := by
  intro k' T env A K φ0 s0 st φ s stm Q hi ho F X q
  exact False.elim q
theorem not_module {T : Tx} {env : Env} {A : Around} (F : Frame W T env A) : interactive env = false := by
  unfold interactive
  rw [F.es.fn]; rfl
include hW in
theorem ps_app (a e : X) : PS W (.app a e) := by
  intro k' T env A K φ0 s0 st φ s stm Q hi ho F X q
  refine isS_app hi ?_
  rintro x px ap v cp p rfl hln hxa hxe hns
  replace ho := and_inv ho
  skip
  refine wpK.of_any (wpAny_Expr ?_ (not_module F) rfl)
  have htr : backTo cp (starEach [v] env) = [(false, eval v env)] := by rw [starEach_plain hns]; rfl
  refine wpAny_Call_append rfl (by rw [htr]; rfl) hln htr ((((all_X hW a false T env _ A s φ st.hp st.loc hxa ho.1 (X.here F)).1 _ q).mono fun w1 s1 q1 => ?_).any)
  refine bc fun no => ?_
  obtain ⟨φ1, hp1, u1, x1, H1, r1, q1⟩ := q1
  refine no ?_
  have X1 := X.step x1 H1
  induction u1 with
  | ref r =>
    obtain ⟨a1, e1, rfl⟩ := r1
    obtain ⟨⟨l1, hl1⟩, q1⟩ := q1
    refine bc fun no => ?_
    obtain ⟨vs1, ⟨n1, g1⟩, _⟩ := H1.at e1 hl1
    refine no ?_
    refine ⟨a1, _, rfl, ⟨_, n1, g1, rfl, rfl, rfl⟩, (((all_X hW e false T env v A s1 φ1 hp1 st.loc hxe ho.2 (X1.here F)).1 _ q1).mono fun w2 s2 q2 => ?_).any⟩
    refine bc fun no => ?_
    obtain ⟨φ2, hp2, u2, x2, H2, r2, q2⟩ := q2
    refine no ?_
    have X2 := X1.step x2 H2
    induction u2 with
    | int y =>
      obtain ⟨t2, rfl⟩ := r2
      obtain ⟨hr, q2⟩ := q2
      induction hob : hp2[r]? with
      | none => rw [hob] at q2; exact q2.elim
      | some ob =>
        rw [hob] at q2
        induction ob with
        | bytes => exact q2.elim
        | nums l =>
          exact app_ok (H2.at (pre_get x2.pre e1) hob) q2.1 fun h' ho' hs => ⟨φ2, _, .next, X2.put (tk := s2.toks) hr (pre_get x2.pre e1) hs ho', rfl, q2.2⟩
    | _ => exact q2.elim
  | _ => exact q1.elim
include hW in
theorem ps_pop0 (a : X) : PS W (.pop0 a) := by
  intro k' T env A K φ0 s0 st φ s stm Q hi ho F X q
  refine isS_pop0 hi ?_
  rintro x px ap n1 n2 cp p rfl hln hxa
  skip
  skip
  refine wpK.of_any (wpAny_Expr ?_ (not_module F) rfl)
  refine wpAny_Call_method1_late rfl hln rfl ((((all_X hW a false T env _ A s φ st.hp st.loc hxa ho (X.here F)).1 _ q).mono fun w1 s1 q1 => ?_).any)
  refine bc fun no => ?_
  obtain ⟨φ1, hp1, u1, x1, H1, r1, q1⟩ := q1
  refine no ?_
  have X1 := X.step x1 H1
  induction u1 with
  | ref r =>
    obtain ⟨a1, e1, rfl⟩ := r1
    obtain ⟨hr, q1⟩ := q1
    induction hob : hp1[r]? with
    | none => rw [hob] at q1; exact q1.elim
    | some ob =>
      rw [hob] at q1
      induction ob with
      | bytes => exact q1.elim
      | nums l =>
        induction l with
        | nil => exact q1.elim
        | cons y l =>
          have hob1 := H1.at e1 hob
          refine bc fun no => ?_
          obtain ⟨vs1, ⟨m1, g1⟩, _⟩ := id hob1
          refine no ?_
          refine ⟨"list", "list.pop", PySem.F.plainAttrs_list, PySem.F.slot_list_pop, PySem.F.type_list_pop, ⟨_, g1, rfl⟩, fun b hb => by cases hb; exact ⟨_, g1, rfl⟩, ?_⟩
          refine Calls.callWith_builtin rfl (Calls.evalArgs_plain (Calls.spliced_cons (wpAny_Constant_int (Calls.spliced_nil ?_))))
          have X1' := X1.tok (s1.toks + 1)
          exact pop_ok (hob1.mono fun _ _ e => e) q1.1 fun h' t ho' hs => ⟨φ1, _, .next, X1'.put (tk := s1.toks + 1) hr e1 hs ho', rfl, q1.2⟩
  | _ => exact q1.elim
end
end Mine
end
section
open PySem PyProof.Rows
open Sem (wp)
namespace Mine
local macro_rules | `(tactic| omega) => `(tactic| first | assumption | lia | omega +splitDisjunctions)
section
variable {k : Bool} {prog : Program} {w : World} {A : Around} {s : Shared} {env : Env}
theorem codeK.block_nil {R : Flow → Shared → Prop} (h : R .next s) : codeK k (model prog w) A (.block [] env) R s := by
  refine codeK.of_tree rfl ?_
  show wpK k _ A (do return PySem.Fin.done (← (execs [] env).onRaise (fun x => do noteFrame x env; theTreesLotGoes x))) _ s
  exact wpK.bind (wpK.onRaise (wpK.execs_nil (wpK.pure h)))
theorem codeK.forLoop {R : Flow → Shared → Prop} {target : Expr} {it : Value} {body : List Stmt} (I : Nat → Shared → Prop)
    (turn : ∀ n s, I n s → wpK k (model prog w) A (pyNext it) (fun r s₁ => match r with
      | none => R .next s₁
      | some v => wpK k (model prog w) A (letOwnedTupleGo target it v) (fun _ s₁' => wpK k (model prog w) A (assign target env v) (fun _ s₂ => wpK k (model prog w) A (execs body env) (fun f s₃ => f = .next ∧ ∃ m, m < n ∧ I m s₃) s₂) s₁') s₁) s)
    (n : Nat) (h : I n s) : codeK k (model prog w) A (.forLoop target it body [] env) R s := by
  refine codeK.loop rfl rfl I (fun n s hI => ?_) n h
  show wpK k _ A ((forTurn target it body [] env).onRaise (fun x => do noteFrame x env; theTreesLotGoes x)) _ s
  refine wpK.onRaise ?_
  simp only [forTurn]
  refine wpK.bind (wpK.standAt (wpK.bind (wpK.onRaise ((turn n s hI).mono fun r s₁ h₁ => ?_))))
  induction r with
  | none => exact wpK.pure (.inr ⟨rfl, codeK.block_nil h₁⟩)
  | some v =>
    refine wpK.bind (h₁.mono fun _ s₁' h₁' => ?_)
    refine wpK.bind (h₁'.mono fun _ s₂ h₂ => wpK.bind (h₂.mono fun f s₃ h₃ => ?_))
    obtain ⟨rfl, h₃⟩ := h₃
    exact wpK.pure (.inl ⟨rfl, h₃⟩)
theorem codeK.whileLoop {R : Flow → Shared → Prop} {test : Expr} {body : List Stmt} (I : Nat → Shared → Prop)
    (turn : ∀ n s, I n s → wpK k (model prog w) A (isTrue test env (eval test env)) (fun b s₂ => match b with
      | true => wpK k (model prog w) A (execs body env) (fun f s₃ => f = .next ∧ ∃ m, m < n ∧ I m s₃) s₂
      | false => R .next s₂) s)
    (n : Nat) (h : I n s) : codeK k (model prog w) A (.whileLoop test body [] env) R s := by
  refine codeK.loop rfl rfl I (fun n s hI => ?_) n h
  show wpK k _ A ((whileTurn test body [] env).onRaise (fun x => do noteFrame x env; theTreesLotGoes x)) _ s
  refine wpK.onRaise ?_
  simp only [whileTurn]
  refine wpK.bind ((turn n s hI).mono fun b s₂ h₂ => ?_)
  induction b with
  | false => exact wpK.bind (wpK.execs_nil (wpK.pure h₂))
  | true =>
    refine wpK.bind (h₂.mono fun f s₃ h₃ => ?_)
    obtain ⟨rfl, h₃⟩ := h₃
    exact wpK.pure (.inl ⟨rfl, h₃⟩)
theorem wpK.runOwn {c : Code} {Q : Flow → Shared → Prop} (hc : codeK k (model prog w) A c Q s) : wpK k (model prog w) A (PySem.runOwn c env) Q s := by
  unfold PySem.runOwn
  exact wpK.onRaise (wpK.run hc)
theorem wpK.While {test : Expr} {body : List Stmt} {pos : Pos} {Q : Flow → Shared → Prop} (hc : codeK k (model prog w) A (.whileLoop test body [] env) Q s) : wpK k (model prog w) A (exec (.While test body [] pos) env) Q s := by
  rw [exec_While]
  exact wpK.bind (wpK.standAt (wpK.runOwn hc))
theorem wpK.For {target iter : Expr} {body : List Stmt} {pos : Pos} {Q : Flow → Shared → Prop}
    (h : wpK k (model prog w) A (eval iter env) (fun x s₁ => wpK k (model prog w) A (pyIter x) (fun it s₂ => codeK k (model prog w) A (.forLoop target it body [] env) Q s₂) s₁) s)
    (hs : ∀ x, foldedSetIterable iter env x = Pure.pure x) : wpK k (model prog w) A (exec (.For target iter body [] pos) env) Q s := by
  rw [exec_For]
  refine wpK.bind (wpK.standAt (wpK.bind (h.mono fun x s₁ h₁ => ?_)))
  rw [hs x]
  exact wpK.bind (wpK.pure (wpK.bind (wpK.standAt (wpK.bind (wpK.holding (h₁.mono fun it s₂ h₂ => wpK.runOwn h₂))))))
end
section
variable {W : Wld} (hW : W.Ok)
include hW in
theorem ps_whil (c : X) (body : SL) (hb : PSL W body) : PS W (.whil c body) := by
  intro k' T env A K φ0 s0 st φ s stm Q hi ho F X q
  refine isS_whil hi ?_
  rintro t b p rfl h0 h1
  replace ho := and_inv ho
  skip
  refine bc fun no => ?_
  obtain ⟨I, ⟨m, hm⟩, step⟩ := q
  refine no ?_
  refine wpK.While (codeK.weak (codeK.whileLoop (fun n s' => ∃ st' φ', I n st' ∧ Sim W T env K φ0 s0 st' φ' s') (fun n s' hI => ?_) m ⟨st, φ, hm, X⟩))
  refine bc fun no => ?_
  obtain ⟨st', φ', hI, X'⟩ := hI
  refine no ?_
  refine ((all_X hW c false T env t A s' φ' st'.hp st'.loc h0 ho.1 (X'.here F)).2 _ (step n st' hI) rfl).mono fun v s1 q1 => ?_
  refine bc fun no => ?_
  obtain ⟨φ1, hp1, x1, H1, q1⟩ := q1
  refine no ?_
  have X1 := X'.step x1 H1
  induction v with
  | false => exact ⟨φ1, _, .next, X1, rfl, q1⟩
  | true =>
    refine (hb false T env A K φ0 s0 _ φ1 s1 b _ h1 ho.2 F X1 q1).mono fun f s2 q2 => ?_
    refine bc fun no => ?_
    obtain ⟨φ2, st2, fl, X2, hf, rfl, ρ, st3, m', v3, hm', hI'⟩ := q2
    refine no ?_
    cases hf
    obtain ⟨φ3, X3, _⟩ := X2.view v3
    exact ⟨rfl, m', hm', st3, φ3, hI', X3⟩
structure LInv (W : Wld) (T : Tx) (env : Env) (K : KM) (φ1 : List Addr) (s0 : Shared) (Sx : Nat → Heap → Prop) (fp : List Addr) (i : Nat) (st : St) (φ : List Addr) (s : Shared) : Prop where
  sim : Sim W T env K φ1 s0 st φ s
  walk : Sx i s.heap
  far : ∀ (j : Nat) a, φ1.length ≤ j → φ[j]? = some a → a ∉ fp
theorem for_body {T : Tx} {env : Env} {A : Around} {K : KM} {φ1 : List Addr} {s0 : Shared} {Sx : Nat → Heap → Prop} {fp : List Addr} {body : SL} {b : List Stmt} {k : Bool} (F : Frame W T env A) (hb : PSL W body) (h1 : isSL T body b = true) (ho : okSL W.pc k body = true)
    (hfr : ∀ i h h', Sx i h → (∀ b ∈ fp, ∀ o, h.get? b = some o → h'.get? b = some o) → Sx i h') (hlive : ∀ i h, Sx i h → ∀ b ∈ fp, ∃ o, h.get? b = some o)
    (hL : env.locals ∉ fp) (hC : ∀ x c, env.cells.lookup x = some c → c ∉ fp) {i : Nat} {st : St} {φ : List Addr} {s : Shared} (X : LInv W T env K φ1 s0 Sx fp i st φ s) {J : St → Prop}
    (q : wSL W.G W.gs φ1.length body st fun fl st2 => fl = .next ∧ ∃ ρ st3, View φ1.length ρ st2 st3 ∧ J st3) :
    wpK k W.M A (execs b env) (fun f s' => f = .next ∧ ∃ st' φ', J st' ∧ LInv W T env K φ1 s0 Sx fp i st' φ' s') s := by
  have P := X.sim.protected
  refine (hb k T env A _ φ1 s0 st φ s b _ h1 ho F P q).mono fun f s2 q2 => ?_
  refine bc fun no => ?_
  obtain ⟨φ2, st2, fl, X2, hf, rfl, ρ, st3, v3, hJ⟩ := q2
  refine no ?_
  cases hf
  obtain ⟨φ3, X3, hφ3⟩ := X2.view v3
  have hp : ∀ b ∈ fp, ∀ o, s.heap.get? b = some o → protect env φ1.length φ s.heap b = some o := fun b hb o e =>
    protect_some e (fun h => hL (h ▸ hb)) (fun x h => hC x b h hb) fun j hj h => X.far j b hj h hb
  refine ⟨rfl, st3, φ3, hJ, X3.weaken (fun b o e => X.sim.le_protect e) X.sim.hb, hfr i _ _ X.walk fun b hb o e => X3.keep b o (hp b hb o e), fun j a hj e hm => ?_⟩
  have hn := X3.own j a hj e
  obtain ⟨o, ho⟩ := hlive i _ X.walk a hm
  rw [hp a hm o ho] at hn
  cases hn
theorem for_core {k : Bool} {T : Tx} {env : Env} {A : Around} {K : KM} {φ1 : List Addr} {s0 : Shared} {Sx : Nat → Heap → Prop} {fp : List Addr} {target : Expr} {it : Value} {b : List Stmt} {n : Nat} {I : Nat → St → Prop} {upd : Nat → Loc → Loc} {R : Flow → Shared → Prop}
    (hstep : ∀ i st φ s (Q : Shared → Prop), i < n → LInv W T env K φ1 s0 Sx fp i st φ s → (∀ s₂, LInv W T env K φ1 s0 Sx fp (i + 1) ⟨upd i st.loc, st.hp⟩ φ s₂ → Q s₂) →
      wpAny W.M A (pyNext it) (fun r s₁ => match r with
        | none => False
        | some v => wpAny W.M A (letOwnedTupleGo target it v) (fun _ s₁' => wpAny W.M A (assign target env v) (fun _ s₂ => Q s₂) No s₁') No s₁) No s)
    (hdone : ∀ st φ s (Q : Shared → Prop), LInv W T env K φ1 s0 Sx fp n st φ s → (∀ s', Sim W T env K φ1 s0 st φ s' → Q s') → wpAny W.M A (pyNext it) (fun r s₁ => r = none ∧ Q s₁) No s)
    (hbody : ∀ i st φ s, i < n → I i st → LInv W T env K φ1 s0 Sx fp (i + 1) ⟨upd i st.loc, st.hp⟩ φ s → wpK k W.M A (execs b env) (fun f s' => f = .next ∧ ∃ st' φ', I (i + 1) st' ∧ LInv W T env K φ1 s0 Sx fp (i + 1) st' φ' s') s)
    {st : St} {φ : List Addr} {s : Shared} (h0 : I 0 st) (X : LInv W T env K φ1 s0 Sx fp 0 st φ s) (hR : ∀ st φ s, I n st → Sim W T env K φ1 s0 st φ s → R .next s) :
    codeK k W.M A (.forLoop target it b [] env) R s := by
  refine codeK.forLoop (fun m s' => ∃ i st' φ', i ≤ n ∧ m = n - i ∧ I i st' ∧ LInv W T env K φ1 s0 Sx fp i st' φ' s') (fun m s' hI => ?_) n ⟨0, st, φ, Nat.zero_le _, rfl, h0, X⟩
  refine bc fun no => ?_
  obtain ⟨i, st', φ', hi, rfl, hIi, X'⟩ := hI
  refine no ?_
  rcases Nat.lt_or_ge i n with hlt | hge
  · refine (wpK.of_any (hstep i st' φ' s' (fun s₂ => LInv W T env K φ1 s0 Sx fp (i + 1) ⟨upd i st'.loc, st'.hp⟩ φ' s₂) hlt X' fun s₂ h => h)).mono fun r s₁ h₁ => ?_
    induction r with
    | none => exact h₁.elim
    | some v =>
      refine (wpK.of_any h₁).mono fun _ s₁' h₁' => (wpK.of_any h₁').mono fun _ s₂ h₂ => (hbody i st' φ' s₂ hlt hIi h₂).mono fun f s₃ h₃ => ?_
      obtain ⟨rfl, st3, φ3, hI3, X3⟩ := h₃
      exact ⟨rfl, n - (i + 1), by omega, i + 1, st3, φ3, hlt, rfl, hI3, X3⟩
  · obtain rfl : i = n := Nat.le_antisymm hi hge
    refine (wpK.of_any (hdone st' φ' s' (fun s₂ => Sim W T env K φ1 s0 st' φ' s₂) X' fun s₂ h => h)).mono fun r s₁ h₁ => ?_
    obtain ⟨rfl, h₁⟩ := h₁
    exact hR st' φ' s₁ hIi h₁
end
end Mine
end
section
open PySem PyProof.Rows
open Sem (wp)
namespace Mine
local macro_rules | `(tactic| omega) => `(tactic| first | assumption | lia | omega +splitDisjunctions)
section
variable {W : Wld} (hW : W.Ok)
theorem Sim.narrow {T : Tx} {env : Env} {K : KM} {φ0 φ1 : List Addr} {s0 : Shared} {st : St} {φ : List Addr} {s : Shared} (X : Sim W T env K φ0 s0 st φ s) (h0 : φ0 <+: φ1) (h1 : φ1 <+: φ) : Sim W T env K φ1 s0 st φ s :=
  ⟨X.hb, X.keep, X.gens, X.os, X.drawn, h1, X.gv.mono h0, X.heap, fun j a hj e => X.own j a (Nat.le_trans h0.length_le hj) e, X.loc, X.ns, X.nsK, X.cell⟩
theorem Sim.widen {T : Tx} {env : Env} {K : KM} {φ0 φ1 : List Addr} {s0 : Shared} {st : St} {φ : List Addr} {s : Shared} (X : Sim W T env K φ1 s0 st φ s) (h0 : φ0 <+: φ1) (gv : W.GV φ0) (hK : ∀ (j : Nat) a, φ0.length ≤ j → φ1[j]? = some a → K a = none) : Sim W T env K φ0 s0 st φ s :=
  ⟨X.hb, X.keep, X.gens, X.os, X.drawn, h0.trans X.pre, gv, X.heap, fun j a hj e => by
    rcases Nat.lt_or_ge j φ1.length with h | h
    · obtain ⟨t, ht⟩ := X.pre
      rw [← ht, List.getElem?_append_left h] at e
      exact hK j a hj e
    · exact X.own j a h e, X.loc, X.ns, X.nsK, X.cell⟩
theorem for_src {k' : Bool} {T : Tx} {env : Env} {A : Around} {K : KM} {φ1 : List Addr} {s0 s1 s2 : Shared} {st : St} {φ : List Addr} {J : Addr} {fp wr : List Addr} {P : Nat → Value → Prop} {Sx : Nat → Heap → Prop} {xs : List Int} {k : Nat} {x : Str} {px : Pos} {body : SL} {b : List Stmt}
    (F : Frame W T env A) (S : Src W A s1 s2 J fp wr P Sx xs) (X : Sim W T env K φ1 s0 st φ s1) (hx : T.ns[k]? = some (some x)) (hfar : ∀ (j : Nat) a, φ1.length ≤ j → φ[j]? = some a → a ∉ fp)
    (hL : env.locals ∉ fp) (hC : ∀ x c, env.cells.lookup x = some c → c ∉ fp) (hb : PSL W body) (h1 : isSL T body b = true) (ho : okSL W.pc k' body = true) {I : Nat → St → Prop} (hI0 : I 0 st)
    (hstep : ∀ (i : Nat) y st1, I i st1 → xs[i]? = some y → wSL W.G W.gs φ1.length body ⟨st1.loc.set k (.int y), st1.hp⟩ fun fl st2 => fl = .next ∧ ∃ ρ st3, View φ1.length ρ st2 st3 ∧ I (i + 1) st3)
    {R : Flow → Shared → Prop} (hR : ∀ st φ s, I xs.length st → Sim W T env K φ1 s0 st φ s → R .next s) : codeK k' W.M A (.forLoop (.Name x px) (.ref J) b [] env) R s2 := by
  have hKw : ∀ b ∈ wr, K b = none := fun b hb => by
    induction e : K b with
    | none => rfl
    | some o => have := X.keep b o e; rw [S.fresh b hb] at this; cases this
  have hφ1 : ∀ a ∈ φ1, a ∉ wr := fun a ha hw => by
    obtain ⟨o, e⟩ := X.heap.there (X.pre.subset ha)
    rw [S.fresh a hw] at e; cases e
  have mv : ∀ {i : Nat} {st' : St} {φ' : List Addr} {s : Shared} {h' : Heap} {tk : Nat}, LInv W T env K φ1 s0 Sx fp i st' φ' s → (∀ b o, b ∉ wr → s.heap.get? b = some o → h'.get? b = some o) → Sim W T env K φ1 s0 st' φ' { s with heap := h', toks := tk } := fun {i st' φ' s h' tk} X' hk => by
    refine X'.sim.move wr hk hKw (fun a ha hw => ?_) (fun h => hL (S.walks.sub _ h)) (fun x c hc h => hC x c hc (S.walks.sub _ h))
    obtain ⟨j, hj, rfl⟩ := List.getElem_of_mem ha
    rcases Nat.lt_or_ge j φ1.length with hlt | hge
    · obtain ⟨t, ht⟩ := X'.sim.pre
      have e1 : φ'[j]? = φ1[j]? := by rw [← ht, List.getElem?_append_left hlt]
      rw [List.getElem?_eq_getElem hj, List.getElem?_eq_getElem hlt] at e1
      exact hφ1 _ (List.getElem_mem hlt) (by simpa [Option.some.inj e1] using hw)
    · exact X'.far j _ hge (List.getElem?_eq_getElem hj) (S.walks.sub _ hw)
  obtain ⟨tk, hs2⟩ := S.same
  have X2 : Sim W T env K φ1 s0 st φ s2 := by
    have xp : Ext s1 s2 φ φ := Ext.kept (fun b o e => (S.old b o e).2) (by rw [hs2]) (by rw [hs2]) (by rw [hs2])
    exact X.step xp (X.heap.mono xp.keep)
  refine for_core (n := xs.length) (I := I) (upd := fun i l => l.set k (.int (xs.getD i 0))) ?_ ?_ ?_ hI0 ⟨X2, S.start, hfar⟩ hR
  · intro i st' φ' s Q hi X' q
    refine S.walks.item i s _ _ hi X'.walk fun v h' tk hP hS hk => ?_
    refine bc fun no => ?_
    obtain ⟨y, t, hy, rfl⟩ := S.item i v hP
    refine no ?_
    have hy' : xs.getD i 0 = y := by rw [List.getD_eq_getElem?_getD, hy]; rfl
    refine wpAny_pure (wpAny_assign_Name ((mv X' hk).store F hx (v := .int y) ⟨t, rfl⟩ fun s' Xs _ hks => q s' ⟨by rw [hy']; exact Xs, ?_, X'.far⟩))
    exact S.walks.frame _ _ _ hS fun b hb o e => hks b o (fun h => hL (h ▸ hb)) (fun x h => hC x b h hb) e
  · intro st' φ' s Q X' q
    exact S.walks.done s _ _ X'.walk fun h' tk hk => ⟨rfl, q _ (mv X' hk)⟩
  · intro i st' φ' s hi hI X'
    have hy : xs[i]? = some (xs.getD i 0) := by rw [List.getD_eq_getElem?_getD, List.getElem?_eq_getElem hi]; rfl
    exact for_body F hb h1 ho S.walks.frame S.live hL hC X' (hstep i _ st' hI hy)
include hW in
theorem range_ok {T : Tx} {env : Env} {A : Around} {s : Shared} {φ : List Addr} {hp : List O} {l : Loc} {two : Bool} {lo hi : X} {as : List Expr} {f : Str} {pf pc : Pos} (H : Here W T env A s φ hp l) (hf : f ∈ rangeNames) (hg : T.isGlob f = true)
    (ha : isRA T two lo hi as = true) (ho : okX W.pc false lo = true ∧ okX W.pc false hi = true) {Q : Value → Shared → Prop} {Q' : V → V → List O → Prop}
    (q : wX W.G W.gs lo l hp fun u hp1 => wX W.G W.gs hi l hp1 fun v hp2 => Q' u v hp2) (hu : ∀ u v hp2, Q' u v hp2 → ∃ a b, u = .int a ∧ v = .int b)
    (hQ : ∀ s1 φ1 hp1 a b r t t' v, Ext s s1 φ φ1 → HeapRep φ1 hp1 s1.heap → Q' (.int a) (.int b) hp1 → IsRange s1.heap r a b 1 t t' v → Q (.ref r) s1) : wpAny W.M A (eval (.Call (.Name f pf) as [] pc) env) Q No s := by
  refine wpK.any (wpK.CallName (wpK.of_any (H.global hW hg (hW.base.rng f hf) ?_)))
  induction two with
  | false =>
    obtain ⟨e, he, ha⟩ := any_inv ha
    obtain rfl := one_inv he
    have ha := and_inv ha
    have hlo : lo = .int 0 := by
      have h := ha.1
      split at h
      · rfl
      · cases h
    subst hlo
    have hs : ∀ z p, e ≠ .Starred z p := by
      rintro z p rfl
      have := ha.2
      exact isX_star this
    skip
    refine wpK.callWith_bi (fun a h => by cases h) (by rw [starEach_plain hs]; rfl) ?_
    rw [starEach_plain hs]
    refine wpK.spliced_cons (x := eval e env) (rest := []) (((all_X hW hi false T env e A s φ hp l ha.2 ho.2 H).1 _ q).mono fun v s1 q1 => wpK.spliced_nil ?_)
    obtain ⟨φ1, hp1, u, x1, H1, r1, q1⟩ := q1
    obtain ⟨a, b, e1, rfl⟩ := hu _ _ _ q1
    cases e1
    obtain ⟨t, rfl⟩ := r1
    exact wpK.of_any (call_range_1 (hQ _ φ1 hp1 0 b _ _ _ _ (x1.trans (Ext.kept (fun b o e => Heap.get?_push_of_some _ e) rfl rfl)) (H1.mono fun b o e => Heap.get?_push_of_some _ e) q1 (IsRange.new _ _ _ _ _ _ _)))
  | true =>
    obtain ⟨d, hd, ha⟩ := any_inv ha
    obtain ⟨e, he, ha⟩ := any_inv ha
    obtain rfl : as = [d, e] := (head_inv hd).trans (by rw [one_inv he])
    have ha := and_inv ha
    have hs : ∀ z p, e ≠ .Starred z p := by
      rintro z p rfl
      have := ha.2
      exact isX_star this
    have hs' : ∀ z p, d ≠ .Starred z p := by
      rintro z p rfl
      have := ha.1
      exact isX_star this
    refine wpK.callWith_bi (fun a h => by cases h) (by rw [starEach_plain hs', starEach_plain hs]; rfl) ?_
    rw [starEach_plain hs', starEach_plain hs]
    refine wpK.spliced_cons (x := eval d env) (rest := [(false, eval e env)]) (((all_X hW lo false T env d A s φ hp l ha.1 ho.1 H).1 _ q).mono fun v0 s0 q0 => ?_)
    refine bc fun no => ?_
    obtain ⟨φ0, hp0, u0, x0, H0, r0, q0⟩ := q0
    refine no ?_
    refine wpK.spliced_cons (x := eval e env) (rest := []) (((all_X hW hi false T env e A s0 φ0 hp0 l ha.2 ho.2 (H.step x0 H0)).1 _ q0).mono fun v s1 q1 => wpK.spliced_nil ?_)
    obtain ⟨φ1, hp1, u, x1, H1, r1, q1⟩ := q1
    obtain ⟨a, b, rfl, rfl⟩ := hu _ _ _ q1
    obtain ⟨t0, rfl⟩ := r0
    obtain ⟨t, rfl⟩ := r1
    exact wpK.of_any (call_range_2 (hQ _ φ1 hp1 a b _ _ _ _ ((x0.trans x1).trans (Ext.kept (fun b o e => Heap.get?_push_of_some _ e) rfl rfl)) (H1.mono fun b o e => Heap.get?_push_of_some _ e) q1 (IsRange.new _ _ _ _ _ _ _)))
theorem fp_fresh {T : Tx} {env : Env} {K : KM} {φ0 : List Addr} {s0 : Shared} {st : St} {φ : List Addr} {s : Shared} (X : Sim W T env K φ0 s0 st φ s) {J : Addr} (hJ : s.heap.get? J = none) :
    env.locals ≠ J ∧ (∀ x c, env.cells.lookup x = some c → c ≠ J) ∧ ∀ a ∈ φ, a ≠ J := by
  refine ⟨?_, fun x c hc => ?_, fun a ha => ?_⟩
  · rintro rfl
    obtain ⟨m, o, _, _, e, _⟩ := X.ns
    rw [hJ] at e; cases e
  · rintro rfl
    obtain ⟨⟨v, o, e, _⟩, _⟩ := X.cell x c hc
    rw [hJ] at e; cases e
  · rintro rfl
    obtain ⟨o, e⟩ := X.heap.there ha
    rw [hJ] at e; cases e
include hW in
theorem ps_forR (k : Nat) (two : Bool) (lo hi : X) (body : SL) (hb : PSL W body) : PS W (.forR k two lo hi body) := by
  intro k' T env A K φ0 s0 st φ s stm Q hi' ho F X q
  refine isS_forR hi' ?_
  rintro x px f pf as pc b p rfl hs hf hg ha h1
  replace ho := and3_inv ho
  skip
  refine wpK.For (wpK.of_any (range_ok hW (X.here F) hf hg ha ho.1 q (fun u v hp2 h => ?_) (fun s1 φ1 hp1 a bb r t t' v x1 H1 q1 hr => ?_))) (fun _ => rfl)
  · cases u <;> cases v <;> simp only at h
    exact ⟨_, _, rfl, rfl⟩
  · simp only at q1
    refine bc fun no => ?_
    obtain ⟨hz1, hz2, I, hI0, hst, hQ⟩ := q1
    refine no ?_
    have X1 := X.step x1 H1
    refine wpK.of_any (src_range (W := W) F.room.handled hr hz1 hz2 fun s2 J fp wr P Sx S hJ => ?_)
    obtain ⟨rfl, rfl⟩ := hJ
    refine bc fun no => ?_
    obtain ⟨g1, g2, g3⟩ := fp_fresh X1 (fresh_size s1.heap)
    refine no ?_
    refine for_src (I := I) F S X1 (slot_inv hs).1 (fun j a hj e => ?_) (by simpa using g1) (fun x c hc => by simpa using g2 x c hc) hb h1 ho.2 hI0 (fun i y st1 hI hy => ?_) (fun st' φ' s' hI X' => ?_)
    · simpa using g3 a (List.mem_of_getElem? e)
    · simp only [List.getElem?_map, Option.map_eq_some_iff] at hy
      obtain ⟨i', hi1, rfl⟩ := hy
      obtain ⟨hlt, e⟩ := List.getElem?_eq_some_iff.mp hi1
      simp only [List.getElem_range] at e
      subst e
      simp only [List.length_range] at hlt
      exact hst _ st1 hI (by omega)
    · simp only [List.length_map, List.length_range] at hI
      exact ⟨φ', st', .next, X', rfl, hQ st' hI⟩
end
end Mine
end
section
open PySem PyProof.Rows
open Sem (wp)
namespace Mine
local macro_rules | `(tactic| omega) => `(tactic| first | assumption | lia | omega +splitDisjunctions)
section
variable {W : Wld} (hW : W.Ok)
theorem loop_view {T : Tx} {env : Env} {K : KM} {φ0 : List Addr} {s0 : Shared} {st st₀ : St} {φ : List Addr} {s : Shared} {ρ : List Nat} {n1 r : Nat} {a : Addr} (X : Sim W T env K φ0 s0 st φ s) (v : View φ0.length ρ st st₀) (hn : φ0.length ≤ n1) (hn1 : n1 ≤ st₀.hp.length)
    (hr : ∀ j, n1 ≤ j → ρ[j]? ≠ some r) (ha : φ[r]? = some a) :
    ∃ φ₂ φ₁, φ₁.length = n1 ∧ Sim W T env K φ₁ s0 st₀ φ₂ s ∧ φ0 <+: φ₁ ∧ (∀ (j : Nat) b, φ0.length ≤ j → φ₁[j]? = some b → K b = none) ∧ ∀ (j : Nat) b, φ₁.length ≤ j → φ₂[j]? = some b → b ≠ a := by
  obtain ⟨φ₂, X2, hφ⟩ := X.view v
  have hl : (φ₂.take n1).length = n1 := by rw [List.length_take, X2.heap.len]; omega
  have h0 : φ0 <+: φ₂.take n1 := by
    obtain ⟨t, ht⟩ := X2.pre
    rw [← ht, List.take_append]
    rw [List.take_of_length_le hn]
    exact List.prefix_append _ _
  refine ⟨φ₂, φ₂.take n1, hl, X2.narrow h0 (List.take_prefix _ _), h0, fun j b hj e => ?_, fun j b hj e hb => ?_⟩
  · refine X2.own j b hj ?_
    rw [List.getElem?_take] at e
    split at e
    · exact e
    · cases e
  · subst hb
    rw [hl] at hj
    obtain ⟨i, e1, e2⟩ := (hφ j b).mp e
    have := (List.getElem?_inj (List.getElem?_eq_some_iff.mp e2).1 X.heap.nodup).mp (e2.trans ha.symm)
    subst this
    exact hr j hj e1
include hW in
theorem ps_forL (k : Nat) (e : X) (body : SL) (hb : PSL W body) : PS W (.forL k e body) := by
  intro k' T env A K φ0 s0 st φ s stm Q hi' ho F X q
  refine isS_forL hi' ?_
  rintro x px z pz b p rfl hs hx h1
  replace ho := and_inv ho
  skip
  refine wpK.For ((((all_X hW e false T env _ A s φ st.hp st.loc hx ho.1 (X.here F)).1 _ q).weak).mono fun w s1 q1 => ?_) (fun _ => rfl)
  obtain ⟨φ1, hp1, u, x1, H1, r1, q1⟩ := q1
  have X1 := X.step x1 H1
  induction u with
  | ref r =>
    obtain ⟨a, ea, rfl⟩ := r1
    simp only at q1
    split at q1
    · rename_i xs hxs
      refine bc fun no => ?_
      obtain ⟨hz, n1, ρ₀, st₀, hn, v0, hn1, hr, I, hI0, hst, hQ⟩ := q1
      refine no ?_
      have hob := H1.at ea hxs
      refine wpK.of_any (src_list (W := W) F.room.handled hob hz fun s2 J fp wr P Sx S hJ => ?_)
      obtain ⟨rfl, rfl⟩ := hJ
      refine bc fun no => ?_
      obtain ⟨φ₂, φ₁, hl, X2, h0, hK, hne⟩ := loop_view X1 v0 hn hn1 hr ea
      refine no ?_
      subst hl
      obtain ⟨g1, g2, g3⟩ := fp_fresh X2 (fresh_size s1.heap)
      refine for_src (I := I) F S X2 (slot_inv hs).1 (fun j c hj e => ?_) ?_ (fun x c hc => ?_) hb h1 ho.2 hI0 (fun i y st1 hI hy => hst i y st1 hI hy) (fun st' φ' s' hI X' => ?_)
      · simp only [List.mem_cons, List.not_mem_nil, or_false, not_or]
        exact ⟨g3 c (List.mem_of_getElem? e), hne j c hj e⟩
      · simp only [List.mem_cons, List.not_mem_nil, or_false, not_or]
        obtain ⟨m, hm⟩ := X1.ns
        exact ⟨g1, (obj_ne_ns hob hm).symm⟩
      · simp only [List.mem_cons, List.not_mem_nil, or_false, not_or]
        obtain ⟨⟨v, hv⟩, _⟩ := X1.cell x c hc
        exact ⟨g2 x c hc, (obj_ne_cell hob hv).symm⟩
      · exact ⟨φ', st', .next, X'.widen h0 X.gv hK, rfl, hQ st' hI⟩
    · exact q1.elim
  | _ => exact q1.elim
theorem fields_ne {h : Heap} {a b : Addr} {o : O} {ob : Obj} {vs : Array Value} (x : ObjIs h a o) (e : h.get? b = some ob) (d : ob.data = .fields vs) : a ≠ b := by
  rintro rfl
  induction o with
  | nums l => obtain ⟨_, ⟨k, e'⟩, _⟩ := x; rw [e] at e'; cases e'; cases d
  | bytes l => obtain ⟨_, e', _⟩ := x; rw [e] at e'; cases e'; cases d
include hW in
theorem ps_forE (k1 k2 : Nat) (e : X) (body : SL) (hb : PSL W body) : PS W (.forE k1 k2 e body) := by
  intro k' T env A K φ0 s0 st φ s stm Q hi' ho F X q
  refine isS_forE hi' ?_
  rintro x px y py nt pt f pf a pc b p rfl hs1 hs2 hf hg hx h1
  replace ho := and_inv ho
  skip
  have hstar : ∀ z p, a ≠ .Starred z p := by
    rintro z p rfl
    exact isX_star hx
  refine wpK.For (wpK.CallName (wpK.of_any ((X.here F).global hW hg (hW.base.enm f hf) ?_))) (fun _ => rfl)
  refine wpK.callWith_bi (fun a h => by cases h) (by rw [starEach_plain hstar]; rfl) ?_
  rw [starEach_plain hstar]
  refine wpK.spliced_cons (x := eval a env) (rest := []) ((((all_X hW e false T env _ A s φ st.hp st.loc hx ho.1 (X.here F)).1 _ q).weak).mono fun w s1 q1 => wpK.spliced_nil ?_)
  obtain ⟨φ1, hp1, u, x1, H1, r1, q1⟩ := q1
  have X1 := X.step x1 H1
  induction u with
  | ref r =>
    obtain ⟨l, ea, rfl⟩ := r1
    simp only at q1
    split at q1
    · rename_i xs hxs
      refine bc fun no => ?_
      obtain ⟨hz, n1, ρ₀, st₀, hn, v0, hn1, hr, I, hI0, hst, hQ⟩ := q1
      refine no ?_
      have hob := H1.at ea hxs
      refine bc fun no => ?_
      obtain ⟨vs, ⟨nl, gl⟩, hI⟩ := id hob
      refine no ?_
      have hlen := hI.length
      refine wpK.of_any (call_enumerate_1 gl fun h2 he hit hsz hk => wpK.of_any (wpAny_pyIter_enum (s := { s1 with heap := h2 }) he ?_))
      refine bc fun no => ?_
      obtain ⟨φ₂, φ₁, hl, X2, h0, hK, hne⟩ := loop_view X1 v0 hn hn1 hr ea
      refine no ?_
      subst hl
      -- the state behind the making of the iterators
      have xp : Ext s1 { s1 with heap := h2 } φ₂ φ₂ := Ext.kept hk rfl rfl
      have X3 := X2.step xp (X2.heap.mono hk)
      have fr1 : s1.heap.get? s1.heap.objs.size = none := fresh_size _
      have fr2 : s1.heap.get? (s1.heap.objs.size + 1) = none := fresh_of (Nat.le_succ _)
      refine bc fun no => ?_
      obtain ⟨g1, g2, g3⟩ := fp_fresh X2 fr1
      refine no ?_
      refine bc fun no => ?_
      obtain ⟨g1', g2', g3'⟩ := fp_fresh X2 fr2
      refine no ?_
      have hKw : ∀ b ∈ [s1.heap.objs.size + 1, s1.heap.objs.size], K b = none := fun b hb => by
        simp only [List.mem_cons, List.not_mem_nil, or_false] at hb
        induction e : K b with
        | none => rfl
        | some o =>
          have := X2.keep b o e
          rcases hb with rfl | rfl
          · rw [fr2] at this; cases this
          · rw [fr1] at this; cases this
      have hl1 : l ≠ s1.heap.objs.size := Nat.ne_of_lt (Heap.lt_size gl)
      have hl2 : l ≠ s1.heap.objs.size + 1 := Nat.ne_of_lt (Nat.lt_succ_of_lt (Heap.lt_size gl))
      have hLl : env.locals ≠ l := by
        obtain ⟨m, hm⟩ := X1.ns
        exact (obj_ne_ns hob hm).symm
      have hCl : ∀ x c, env.cells.lookup x = some c → c ≠ l := fun x c hc => by
        obtain ⟨⟨v, hv⟩, _⟩ := X1.cell x c hc
        exact (obj_ne_cell hob hv).symm
      have hφ1 : ∀ c ∈ φ₁, c ≠ s1.heap.objs.size ∧ c ≠ s1.heap.objs.size + 1 := fun c hc => ⟨g3 c (X2.pre.subset hc), g3' c (X2.pre.subset hc)⟩
      have tracked : ∀ {i : Nat} {st' : St} {φ' : List Addr} {s' : Shared}, LInv W T env K φ₁ s0 (fun i h => ∃ old, IsEnum h (s1.heap.objs.size + 1) s1.heap.objs.size ((i : Nat) : Int) old ∧ h.IsListIter s1.heap.objs.size l i ∧ h.IsList l vs.toArray) [s1.heap.objs.size + 1, s1.heap.objs.size, l] i st' φ' s' →
          ∀ c ∈ φ', c ≠ s1.heap.objs.size + 1 ∧ c ≠ s1.heap.objs.size := fun {i st' φ' s'} X' c hc => by
        refine bc fun no => ?_
        obtain ⟨j, hj, rfl⟩ := List.getElem_of_mem hc
        refine no ?_
        rcases Nat.lt_or_ge j φ₁.length with hlt | hge
        · obtain ⟨t, ht⟩ := X'.sim.pre
          have e1 : φ'[j]? = φ₁[j]? := by rw [← ht, List.getElem?_append_left hlt]
          rw [List.getElem?_eq_getElem hj, List.getElem?_eq_getElem hlt] at e1
          rw [Option.some.inj e1]
          exact ⟨(hφ1 _ (List.getElem_mem hlt)).2, (hφ1 _ (List.getElem_mem hlt)).1⟩
        · have := X'.far j _ hge (List.getElem?_eq_getElem hj)
          simp only [List.mem_cons, List.not_mem_nil, or_false, not_or] at this
          exact ⟨this.1, this.2.1⟩
      refine for_core (n := xs.length) (I := I) (upd := fun i l => (l.set k1 (.int i)).set k2 (.int (xs.getD i 0))) (Sx := fun i h => ∃ old, IsEnum h (s1.heap.objs.size + 1) s1.heap.objs.size ((i : Nat) : Int) old ∧ h.IsListIter s1.heap.objs.size l i ∧ h.IsList l vs.toArray) (fp := [s1.heap.objs.size + 1, s1.heap.objs.size, l]) ?_ ?_ ?_ hI0 ⟨X3, ⟨_, he, hit, ?_⟩, fun j c hj ec => ?_⟩ (fun st' φ' s' hIn X' => ⟨φ', st', .next, X'.widen h0 X.gv hK, rfl, hQ st' hIn⟩)
      · intro i st' φ' s' Qq hi X' qq
        refine bc fun no => ?_
        obtain ⟨old, he', hit', hl'⟩ := X'.walk
        refine no ?_
        obtain ⟨tv, hv⟩ := intsAre_get hI (j := i) (y := xs[i]) (by simp)
        have hyy : xs.getD i 0 = xs[i] := by rw [List.getD_eq_getElem?_getD, List.getElem?_eq_getElem hi]; rfl
        have hei : s1.heap.objs.size + 1 ≠ s1.heap.objs.size := Nat.succ_ne_self _
        have elt : s1.heap.objs.size + 1 < s'.heap.objs.size := Heap.lt_size he'
        refine wpAny_pyNext_enum_item he' hit' hl' (x := .int xs[i] tv) (by simpa using hv) hei fun h₁ heo hit₁ ht₁ hz₁ hk₁ => ?_
        refine wpAny_letOwnedTupleGo_enum heo fun h₂ he₂ hs₂ => ?_
        have hs₂' : Heap.SameBut (s1.heap.objs.size + 1) h₁ h₂ := hs₂
        have ht₂ : IsTup h₂ s'.heap.objs.size #[.int i s'.toks, .int xs[i] tv] := ⟨_, (hs₂'.2 _ (Nat.ne_of_gt elt)).trans ht₁, rfl, _, rfl⟩
        have hz₂ : h₂.objs.size = s'.heap.objs.size + 1 := hs₂'.1.trans hz₁
        refine assign_Tuple_tuple F.room.handled ht₂ rfl rfl fun h₃ hx₃ => ?_
        have hx₃' : Heap.ExtBut h₂.objs.size h₂ h₃ := hx₃
        -- h₃ keeps all but the iterators
        have keep3 : ∀ b o, b ∉ [s1.heap.objs.size + 1, s1.heap.objs.size] → s'.heap.get? b = some o → h₃.get? b = some o := fun b o hb e => by
          simp only [List.mem_cons, List.not_mem_nil, or_false, not_or] at hb
          exact hx₃' b o (by rw [hz₂]; exact Nat.ne_of_lt (Nat.lt_succ_of_lt (Heap.lt_size e))) (hs₂'.extBut b o hb.1 (hk₁ b o hb.1 hb.2 e))
        have X4 : Sim W T env K φ₁ s0 st' φ' { s' with heap := h₃, toks := s'.toks + 1 } := by
          refine X'.sim.move _ keep3 hKw (fun c hc => ?_) ?_ (fun x c hc => ?_)
          · simpa using tracked X' c hc
          · simpa using ⟨g1', g1⟩
          · simpa using ⟨g2' x c hc, g2 x c hc⟩
        have e3 : IsEnum h₃ (s1.heap.objs.size + 1) s1.heap.objs.size ((i : Int) + 1) (.int xs[i] tv) := hx₃' _ _ (by rw [hz₂]; exact Nat.ne_of_lt (Nat.lt_succ_of_lt elt)) he₂
        have it3 : h₃.IsListIter s1.heap.objs.size l (i + 1) := by
          have := hit₁.extBut hs₂'.extBut (Ne.symm hei)
          obtain ⟨o, eo, r⟩ := this
          exact ⟨o, hx₃' _ _ (by rw [hz₂]; exact Nat.ne_of_lt (Nat.lt_succ_of_lt (Nat.lt_of_succ_lt elt))) eo, r⟩
        have l3 : h₃.IsList l vs.toArray := hl'.at fun o e => keep3 l o (by simpa using ⟨hl2, hl1⟩) e
        refine names_ok F (ks := [k1, k2]) (ts := [.Name x px, .Name y py]) (us := [.int i, .int xs[i]]) (vs := [.int i s'.toks, .int xs[i] tv]) (by show (T.isSlot k1 x && (T.isSlot k2 y && true)) = true; rw [hs1, hs2]; rfl) ⟨⟨_, rfl⟩, ⟨_, rfl⟩, trivial⟩ rfl X4 fun s5 X5 hk5 => qq s5 ⟨?_, ⟨.int xs[i] tv, ?_, ?_, ?_⟩, X'.far⟩
        · rw [hyy]; exact X5
        · have : ((i + 1 : Nat) : Int) = (i : Int) + 1 := by push_cast; rfl
          rw [this]
          exact hk5 _ _ (Ne.symm g1') (fun x h => g2' x _ h rfl) e3
        · exact it3.at fun o eo => hk5 _ o (Ne.symm g1) (fun x h => g2 x _ h rfl) eo
        · exact l3.at fun o eo => hk5 _ o (Ne.symm hLl) (fun x h => hCl x _ h rfl) eo
      · intro st' φ' s' Qq X' qq
        obtain ⟨old, he', hit', hl'⟩ := X'.walk
        refine wpAny_pyNext_enum_end F.room.handled he' hit' hl' (by simp [hlen]) fun h' he'' => ⟨rfl, qq _ ?_⟩
        refine X'.sim.move (tk := s'.toks) [s1.heap.objs.size] (fun b o hb e => he'' b o (by simpa using hb) e) (fun b hb => hKw b (by simp only [List.mem_cons, List.not_mem_nil, or_false] at hb ⊢; exact .inr hb)) (fun c hc => ?_) (by simpa using g1) (fun x c hc => by simpa using g2 x c hc)
        simpa using (tracked X' c hc).2
      · intro i st' φ' s' hi hIi X'
        have hy : xs[i]? = some (xs.getD i 0) := by rw [List.getD_eq_getElem?_getD, List.getElem?_eq_getElem hi]; rfl
        have hfr : ∀ (i : Nat) (h h' : Heap), (∃ old, IsEnum h (s1.heap.objs.size + 1) s1.heap.objs.size ((i : Nat) : Int) old ∧ h.IsListIter s1.heap.objs.size l i ∧ h.IsList l vs.toArray) → (∀ b ∈ [s1.heap.objs.size + 1, s1.heap.objs.size, l], ∀ o, h.get? b = some o → h'.get? b = some o) →
            ∃ old, IsEnum h' (s1.heap.objs.size + 1) s1.heap.objs.size ((i : Nat) : Int) old ∧ h'.IsListIter s1.heap.objs.size l i ∧ h'.IsList l vs.toArray := by
          rintro i h h' ⟨old, a1, a2, a3⟩ hk
          exact ⟨old, hk _ (by simp) _ a1, a2.at fun o eo => hk _ (by simp) o eo, a3.at fun o eo => hk _ (by simp) o eo⟩
        have hlv : ∀ (i : Nat) (h : Heap), (∃ old, IsEnum h (s1.heap.objs.size + 1) s1.heap.objs.size ((i : Nat) : Int) old ∧ h.IsListIter s1.heap.objs.size l i ∧ h.IsList l vs.toArray) → ∀ b ∈ [s1.heap.objs.size + 1, s1.heap.objs.size, l], ∃ o, h.get? b = some o := by
          rintro i h ⟨old, a1, ⟨o2, a2, _⟩, ⟨o3, a3, _⟩⟩ b hb
          simp only [List.mem_cons, List.not_mem_nil, or_false] at hb
          rcases hb with rfl | rfl | rfl
          · exact ⟨_, a1⟩
          · exact ⟨_, a2⟩
          · exact ⟨_, a3⟩
        exact for_body F hb h1 ho.2 hfr hlv (by simpa using ⟨g1', g1, hLl⟩) (fun x c hc => by simpa using ⟨g2' x c hc, g2 x c hc, hCl x c hc⟩) X' (hst i _ st' hIi hy)
      · exact ⟨_, hk _ _ gl, rfl, _, rfl⟩
      · simp only [List.mem_cons, List.not_mem_nil, or_false, not_or]
        exact ⟨g3' c (List.mem_of_getElem? ec), g3 c (List.mem_of_getElem? ec), hne j c hj ec⟩
    · exact q1.elim
  | _ => exact q1.elim
end
end Mine
end
section
open PySem PyProof.Rows
open Sem (wp)
namespace Mine
local macro_rules | `(tactic| omega) => `(tactic| first | assumption | lia | omega +splitDisjunctions)
section
variable {W : Wld} (hW : W.Ok)
theorem comp_store {T : Tx} {env : Env} {A : Around} {K : KM} {φ0 : List Addr} {s0 s1 s2 : Shared} {st : St} {φ1 : List Addr} {k k2 : Nat} {x y : Str} {px py pl : Pos} {iter : Expr} {sc : Scope} {cl : List (Str × Addr)} {elt : X} {el : Expr} (helt : PX W elt) {J : Addr} {fp wr : List Addr} {P : Nat → Value → Prop} {Sx : Nat → Heap → Prop} {xs : List Int} {f : Int → Int}
    (F : Frame W T env A) (S : Src W A s1 s2 J fp wr P Sx xs) (C : CompOk T sc k x) (hi : isX (T.inner sc k x) elt el = true) (ho : okX W.pc false elt = true) (X : Sim W T env K φ0 s0 st φ1 s1) (hcl : ∀ z, sc.names.lookup z = some .free → cl.lookup z = env.cells.lookup z)
    (q : ∀ y ∈ xs, wX W.G W.gs elt (st.loc.set k (.int y)) st.hp fun v hp2 => v = .int (f y) ∧ hp2 = st.hp) (hy : T.ns[k2]? = some (some y)) {Q : Flow → Shared → Prop}
    (hQ : ∀ φ' s', Sim W T env K φ0 s0 ⟨st.loc.set k2 (.ref st.hp.length), st.hp ++ [.nums (xs.map f)]⟩ φ' s' → Q .next s') :
    wpAny W.M A (newList []) (fun acc s₃ => wpAny W.M A (newFunctionEnv sc env.globals cl [] env.qual none .none (some env)) (fun cenv s₄ =>
      codeAny W.M A (.compStart (.ListComp el [⟨.Name x px, iter, [], 0⟩] sc pl) 0 (.ref J) acc { cenv with scope := relabel sc env }) (compPost W.M A No (some (assign (.Name y py) env)) (fun _ s' => Q .next s') acc cenv.locals) s₄) No s₃) No s2 := by
  refine comp_block_walkC (RR := fun acc C => compPost W.M A No (some (assign (.Name y py) env)) (fun _ s' => Q .next s') acc C) S.walks S.size (fun _ => true) (CompF f) C.nocell C.fn C.loc S.start S.below (comp_quiet helt C hi ho (X.here F) hcl (fun i v h => ?_) S.old q) ?_
  · obtain ⟨y, t, e, rfl⟩ := S.item i v h
    exact ⟨y, t, List.mem_of_getElem? e, rfl⟩
  intro D C' h' tk m' ys vs hD hC hDC hnC hlD hplD hlen hP hF hk
  obtain ⟨a1, a2, a3⟩ := comp_made S X.heap hD hplD hlen hP hF hk
  obtain ⟨tk', hs2⟩ := S.same
  have hC1 : s1.heap.get? C' = none := by
    induction e : s1.heap.get? C' with
    | none => rfl
    | some o => rw [(S.old C' o e).2] at hC; cases hC
  obtain ⟨g1, g2, g3⟩ := fp_fresh X hC1
  have made : EPost φ1 s1 (fun u hp => u = .ref st.hp.length ∧ hp = st.hp ++ [.nums (xs.map f)]) (.ref D) { s1 with heap := h', toks := tk } := EPost.made X.heap a3 rfl rfl a1 a2 ⟨rfl, rfl⟩
  refine bc fun no => ?_
  obtain ⟨φ', hp', u, x1, H1, r1, rfl, rfl⟩ := made
  refine no ?_
  have X1 := X.step x1 H1
  have hCφ : ∀ c ∈ φ', c ≠ C' := fun c hc => by
    obtain ⟨j, hj, rfl⟩ := List.getElem_of_mem hc
    have hob := H1.objs j _ _ (List.getElem?_eq_getElem hj) (List.getElem?_eq_getElem (by rw [← H1.len]; exact hj))
    exact obj_ne_ns hob hnC
  show wpAny W.M A (assign (.Name y py) env (.ref D)) _ _ _
  have : ({ s2 with heap := h', toks := tk } : Shared) = { s1 with heap := h', toks := tk } := by rw [hs2]
  rw [this]
  refine wpAny_assign_Name (X1.store F hy r1 fun s' X' hs' hkeep => ⟨m', ?_, fun h'' hsb => hQ φ' _ ?_⟩)
  · exact hnC.at' fun o e => hkeep _ o (Ne.symm g1) (fun x h => g2 x _ h rfl) e
  · refine X'.move (tk := s'.toks) [C'] (fun b o hb e => hsb.extBut b o (by simpa using hb) e) (fun b hb => ?_) (fun c hc => by simpa using hCφ c hc) (by simpa using g1) (fun x c hc => by simpa using g2 x c hc)
    simp only [List.mem_cons, List.not_mem_nil, or_false] at hb
    subst hb
    induction e : K b with
    | none => rfl
    | some o => have := X.keep b o e; rw [hC1] at this; cases this
include hW in
theorem ps_assignC (k2 : Nat) (e : X) : PS W (.assignC k2 e) := by
  intro k' T env A K φ0 s0 st φ s stm Q hi ho F X q
  refine isS_assignC hi ?_
  rintro y py el gens sc pl p rfl hs hc hx hloc hln hany
  replace ho : okX W.pc false e = true := ho
  replace q : wX W.G W.gs e st.loc st.hp (fun v hp => Q .next ⟨st.loc.set k2 v, hp⟩) := q
  have hsw : T.top = true → swapsWith (.ListComp el gens sc pl) (some (.Name y py)) p.line env = pure true := fun htop => by
    have h1 : env.kindOf y = some .local := by unfold Env.kindOf; rw [(F.es.top htop).1]; exact hloc
    have h2 : env.blockKind = .function := by unfold Env.blockKind; rw [F.es.fn]; rfl
    show (pure (env.blockKind == .function && env.kindOf y == some .local && py.line == pl.line && !(sc.names.any fun (n, j) => n == y && (j == .local || j == .cell))) : Sem Bool) = pure true
    rw [h1, h2, hln, hany]; rfl
  induction e using Mine.X.casesOn with
  | compR k e elt =>
    refine isX_compR hx fun el' x px f pf z pc sc' pl' he hf hg h1 hcc h2 => ?_
    cases he
    have C := okComp_inv hcc
    replace ho := and_inv ho
    skip
    obtain ⟨cl, hclos, hcl⟩ := free_cells C F.es
    have hst : ∀ w p, z ≠ .Starred w p := by
      rintro w p rfl
      exact isX_star h1
    rw [exec_Assign_Name_used _ _ _ _ (hsw C.top)]
    refine wpK.of_any (wpAny_bind (wpAny_standAt (wpAny_bind ?_)))
    show wpAny _ A (do let _ ← comprehension (.ListComp el [⟨.Name x px, .Call (.Name f pf) [z] [] pc, [], 0⟩] sc pl) sc env _ (newList []) false (eval (.Call (.Name f pf) [z] [] pc) env) (some (assign (.Name y py) env))) _ _ s
    refine wpAny_bind (wpAny_mono (wpAny_comprehension_free (use := some (assign (.Name y py) env)) (Q := fun _ s' => SPost W T env K φ0 s0 Q .next s') rfl (fun _ => rfl) hclos C.fn C.locs
      (range1_ok hW (all_X hW e) (X.here F) hf hg h1 ho.1 hst q (fun s1 φ1 hp1 u r t v x1 H1 q1 hr hu => ?_) (fun u hp1 q1 => ?_))) (fun _ s' hq => wpAny_pure (wpAny_pure hq)) fun _ _ e => e)
    · obtain ⟨n, rfl⟩ := hu
      obtain ⟨t', hr⟩ := hr n rfl
      simp only at q1
      refine bc fun no => ?_
      obtain ⟨hn, g, qe, qQ⟩ := q1
      refine no ?_
      have X1 := X.step x1 H1
      refine src_range (W := W) F.room.handled hr (by decide) hn fun s2 J fp wr P Sx S _ => ?_
      refine comp_store (f := fun z => g z.toNat) (all_X hW elt) F S C h2 ho.2 X1 hcl (fun z hz => ?_) (slot_inv hs).1 (fun φ' s' X' => ⟨φ', _, .next, X', rfl, ?_⟩)
      · simp only [List.mem_map, List.mem_range] at hz
        obtain ⟨i, hi', rfl⟩ := hz
        have := qe i (by omega)
        simpa using this
      · rw [map_range]; exact qQ
    · revert q1
      cases u <;> simp
  | compL k e elt =>
    refine bc fun no => ?_
    refine isX_compL hx fun el' x px z pz sc' pl' he h1 hcc h2 => ?_
    refine no ?_
    cases he
    have C := okComp_inv hcc
    replace ho := and_inv ho
    skip
    obtain ⟨cl, hclos, hcl⟩ := free_cells C F.es
    rw [exec_Assign_Name_used _ _ _ _ (hsw C.top)]
    refine wpK.of_any (wpAny_bind (wpAny_standAt (wpAny_bind ?_)))
    show wpAny _ A (do let _ ← comprehension (.ListComp el [⟨.Name x px, .Name z pz, [], 0⟩] sc pl) sc env _ (newList []) false (eval (.Name z pz) env) (some (assign (.Name y py) env))) _ _ s
    refine wpAny_bind (wpAny_mono (wpAny_comprehension_free (use := some (assign (.Name y py) env)) (Q := fun _ s' => SPost W T env K φ0 s0 Q .next s') rfl (fun _ => rfl) hclos C.fn C.locs
      ((((all_X hW e false T env _ A s φ st.hp st.loc h1 ho.1 (X.here F)).1 _ q).mono fun v s1 q1 => ?_).any)) (fun _ s' hq => wpAny_pure (wpAny_pure hq)) fun _ _ e => e)
    refine bc fun no => ?_
    obtain ⟨φ1, hp1, u, x1, H1, r1, q1⟩ := q1
    refine no ?_
    have X1 := X.step x1 H1
    induction u with
    | ref n =>
      refine bc fun no => ?_
      obtain ⟨a, ea, rfl⟩ := r1
      refine no ?_
      simp only at q1
      split at q1
      · rename_i xs hxs
        refine bc fun no => ?_
        obtain ⟨hn, g, qe, qQ⟩ := q1
        refine no ?_
        refine src_list (W := W) F.room.handled (H1.at ea hxs) hn fun s2 J fp wr P Sx S _ => ?_
        exact comp_store (f := g) (all_X hW elt) F S C h2 ho.2 X1 hcl qe (slot_inv hs).1 (fun φ' s' X' => ⟨φ', _, .next, X', rfl, qQ⟩)
      · exact q1.elim
    | _ => exact q1.elim
  | _ => exact nomatch hc
end
mutual
theorem all_S {W : Wld} (hW : W.Ok) : ∀ x, PS W x
  | .assign k e => ps_assign hW k e
  | .assignC k e => ps_assignC hW k e
  | .unpack ks c pos kw => ps_unpack hW ks c pos kw
  | .setI a i e => ps_setI hW a i e
  | .setS a lo hi e => ps_setS hW a lo hi e
  | .augL k op e => ps_augL hW k op e
  | .augI a i op e => ps_augI hW a i op e
  | .forR k two lo hi body => ps_forR hW k two lo hi body (all_SL hW body)
  | .forL k e body => ps_forL hW k e body (all_SL hW body)
  | .forE k1 k2 e body => ps_forE hW k1 k2 e body (all_SL hW body)
  | .whil c body => ps_whil hW c body (all_SL hW body)
  | .iff c t e => ps_iff hW c t e (all_SL hW t) (all_SL hW e)
  | .ret e => ps_ret hW e
  | .retM tup xs => ps_retM hW tup xs
  | .raise => ps_raise
  | .app a e => ps_app hW a e
  | .pop0 a => ps_pop0 hW a
theorem all_SL {W : Wld} (hW : W.Ok) : ∀ x, PSL W x
  | .nil => psl_nil
  | .cons s r => psl_cons s r (all_S hW s) (all_SL hW r)
end
end Mine
end
section
open PySem PyProof.Rows
open Sem (wp)
namespace Mine
local macro_rules | `(tactic| omega) => `(tactic| first | assumption | lia | omega +splitDisjunctions)
section
variable {k : Bool} {prog : Program} {w : World} {A : Around} {s : Shared}
theorem codeK.func {R : Flow → Shared → Prop} {body : List Stmt} {env : Env}
    (h : wpK k (model prog w) (A.deeper env) (execs body env) (fun f s' => R (.ret (match f with | .ret v => v | _ => .none)) s') s) : codeK k (model prog w) A (.func body env) R s := by
  refine codeK.of_tree rfl ?_
  show wpK k _ (A.deeper env) (do point; match ← (execs body env).onRaise (PySem.leaving env) with | .ret v => ret v | _ => ret .none) _ s
  refine wpK.bind (wpK.point (wpK.bind (wpK.onRaise (h.mono fun f s' h' => ?_))))
  cases f <;> exact wpK.pure h'
theorem codeK.call_fn {R : Flow → Shared → Prop} {a : Addr} {o : Obj} {fd : FuncData} {body : List Stmt} {args : Args} {binds : List (Str × Value)}
    (hroom : A.depth < recursionLimit) (ho : s.heap.get? a = some o) (hdata : o.data = .func fd) (hlim : s.heap.NoLimit) (hcd : s.heap.CodeRec fd.code fd.qualname)
    (hbody : fd.body = .stmts body) (hbind : BindsTo s fd args binds) (hclo : fd.closure = []) (hco : fd.scope.isCoroutine = false) (hgen : fd.scope.isGenerator = false) (hk : fd.scope.kind = .function)
    (hkind : ∀ x ∈ binds, fd.scope.names.lookup x.1 = some .local ∨ (fd.scope.names.lookup x.1 = some .cell ∧ ((cellsFrom (s.heap.objs.size + 1) fd.scope.names []).lookup x.1).isSome = true))
    (h : ∀ s₁, InCallC s (callEnvC fd s.heap.objs.size a).locals (bindL (callEnvC fd s.heap.objs.size a).kindOf binds fun _ => none) (callEnvC fd s.heap.objs.size a).cells
        (bindC (callEnvC fd s.heap.objs.size a).kindOf binds fun _ => none) s₁ →
      wpK k (model prog w) (A.deeper (callEnvC fd s.heap.objs.size a)) (execs body (callEnvC fd s.heap.objs.size a)) (fun f s' => R (.ret (match f with | .ret v => v | _ => .none)) s') s₁) :
    codeK k (model prog w) A (.call (.ref a) args) R s := by
  refine codeK.of_tree rfl ?_
  show wpK k _ A.in1 (callAny (.ref a) args) _ s
  simp only [callAny]
  refine wpK.bind (wpK.of_any (wpAny_load ho ?_))
  have hcd' := hcd
  refine bc fun no => ?_
  obtain ⟨c, oc, vs, tq, hc, hoc, hdc, hq⟩ := hcd
  refine no ?_
  simp only [hdata, callFunction, hco, hgen, hbody, hc]
  refine wpK.bind (m := field (.ref c) 1) (wpK.of_any (wpAny_field hoc hdc hq ?_))
  refine wpK.bind (wpK.pure ?_)
  refine wpK.bind (wpK.of_any (hbind _ _ _ _ ?_))
  refine wpK.bind (wpK.of_any ?_)
  rw [hclo]
  refine wpAny_newFunctionEnv_cells hk hkind fun env he s' x => ?_
  rw [← hc] at he
  have he' : env = callEnvC fd s.heap.objs.size a := he
  subst he'
  exact wpK.bind (wpK.of_any (wpAny_enterFrame (hlim.keeps x.toInCall.keep) hroom (wpK.pure ⟨rfl, codeK.func (h s' x)⟩)))
end
theorem cells_cover : ∀ (names : List (Str × NameKind)) (n : Nat) (acc : List (Str × Addr)) (x : Str), ((x, NameKind.cell) ∈ names ∨ (acc.lookup x).isSome = true) → ((cellsFrom n names acc).lookup x).isSome = true
  | [], n, acc, x, h => by
    rcases h with h | h
    · cases h
    · exact h
  | (y, kd) :: r, n, acc, x, h => by
    unfold cellsFrom
    split
    · rename_i hk
      refine cells_cover r _ _ x ?_
      rcases h with h | h
      · rcases List.mem_cons.mp h with e | h
        · cases e
          exact .inr (by rw [List.lookup_cons]; simp)
        · exact .inl h
      · refine .inr ?_
        rw [List.lookup_cons]
        induction x == y with
        | true => rfl
        | false => exact h
    · rename_i hk
      refine cells_cover r _ _ x ?_
      rcases h with h | h
      · rcases List.mem_cons.mp h with e | h
        · cases e; simp at hk
        · exact .inl h
      · exact .inr h
theorem bindL_get {kindOf : Str → Option NameKind} : ∀ {binds : List (Str × Value)} {m : Str → Option Value} {x : Str} {v : Value}, (binds.map (·.1)).Nodup → kindOf x = some .local → ((x, v) ∈ binds ∨ (m x = some v ∧ ∀ w, (x, w) ∉ binds)) → bindL kindOf binds m x = some v
  | [], m, x, v, _, _, h => by
    rcases h with h | h
    · cases h
    · exact h.1
  | (y, u) :: r, m, x, v, hn, hk, h => by
    have hn' : y ∉ r.map (·.1) ∧ (r.map (·.1)).Nodup := by simpa using List.nodup_cons.mp hn
    unfold bindL
    refine bindL_get hn'.2 hk ?_
    rcases h with h | ⟨h, h'⟩
    · rcases List.mem_cons.mp h with e | h
      · cases e
        refine .inr ⟨by rw [if_pos hk]; simp, fun w hw => hn'.1 (List.mem_map.mpr ⟨_, hw, rfl⟩)⟩
      · exact .inl h
    · have hyx : x ≠ y := by
        rintro rfl
        exact h' u List.mem_cons_self
      refine .inr ⟨?_, fun w hw => h' w (List.mem_cons_of_mem _ hw)⟩
      by_cases hy : kindOf y = some .local
      · rw [if_pos hy]; simp [hyx, h]
      · rw [if_neg hy]; exact h
theorem bindC_get {kindOf : Str → Option NameKind} : ∀ {binds : List (Str × Value)} {m : Str → Option Value} {x : Str} {v : Value}, (binds.map (·.1)).Nodup → kindOf x = some .cell → ((x, v) ∈ binds ∨ (m x = some v ∧ ∀ w, (x, w) ∉ binds)) → bindC kindOf binds m x = some v
  | [], m, x, v, _, _, h => by
    rcases h with h | h
    · cases h
    · exact h.1
  | (y, u) :: r, m, x, v, hn, hk, h => by
    have hn' : y ∉ r.map (·.1) ∧ (r.map (·.1)).Nodup := by simpa using List.nodup_cons.mp hn
    unfold bindC
    refine bindC_get hn'.2 hk ?_
    rcases h with h | ⟨h, h'⟩
    · rcases List.mem_cons.mp h with e | h
      · cases e
        refine .inr ⟨by rw [if_neg (by rw [hk]; decide)]; simp, fun w hw => hn'.1 (List.mem_map.mpr ⟨_, hw, rfl⟩)⟩
      · exact .inl h
    · have hyx : x ≠ y := by
        rintro rfl
        exact h' u List.mem_cons_self
      refine .inr ⟨?_, fun w hw => h' w (List.mem_cons_of_mem _ hw)⟩
      by_cases hy : kindOf y = some .local
      · rw [if_pos hy]; exact h
      · rw [if_neg hy]; simp [hyx, h]
theorem Reps.get {φ : List Addr} : ∀ {us : List V} {vs : List Value} {i : Nat} {v : V}, Reps φ us vs → us[i]? = some v → ∃ w, vs[i]? = some w ∧ Rep φ v w
  | [], _, _, _, _, h => by simp at h
  | _ :: _, [], _, _, r, _ => r.elim
  | u :: us, w :: vs, 0, v, r, h => by
    simp only [List.getElem?_cons_zero, Option.some.injEq] at h
    subst h
    exact ⟨w, rfl, r.1⟩
  | u :: us, w :: vs, i + 1, v, r, h => Reps.get (i := i) r.2 h
structure Def (h : Heap) (a : Addr) (fd : FuncData) (sc : Scope) (body : List Stmt) : Prop where
  obj : ∃ o, h.get? a = some o ∧ o.data = .func fd
  code : h.CodeRec fd.code fd.qualname
  body : fd.body = .stmts body
  clo : fd.closure = []
  glob : fd.globals = mainGlobals
  bui : fd.builtins = builtinsNs
  scope : fd.scope = sc
noncomputable def okSlots (T : Tx) : Bool :=
  T.sc.kind == .function && !T.sc.isCoroutine && !T.sc.isGenerator && T.top &&
  T.ns.all (fun o => match o with | none => true | some x => T.sc.names.lookup x == some .local || T.sc.names.lookup x == some .cell) &&
  decide ((T.ns.filterMap id).Nodup)
theorem ns_inj : ∀ {l : List (Option Str)}, (l.filterMap id).Nodup → ∀ (j k : Nat) x, l[j]? = some (some x) → l[k]? = some (some x) → j = k
  | [], _, j, k, x, h, _ => by simp at h
  | o :: l, hn, j, k, x, h1, h2 => by
    have mem : ∀ {i : Nat}, l[i]? = some (some x) → x ∈ l.filterMap id := fun {i} h => List.mem_filterMap.mpr ⟨some x, List.mem_of_getElem? h, rfl⟩
    induction o with
    | none =>
      induction j with
      | zero => simp at h1
      | succ j => induction k with
        | zero => simp at h2
        | succ k => exact congrArg _ (ns_inj (by simpa using hn) j k x h1 h2)
    | some y =>
      have hn' : y ∉ l.filterMap id ∧ (l.filterMap id).Nodup := by simpa using hn
      induction j with
      | zero =>
        induction k with
        | zero => rfl
        | succ k =>
          simp only [List.getElem?_cons_zero, Option.some.injEq] at h1
          subst h1
          exact absurd (mem h2) hn'.1
      | succ j =>
        induction k with
        | zero =>
          simp only [List.getElem?_cons_zero, Option.some.injEq] at h2
          subst h2
          exact absurd (mem h1) hn'.1
        | succ k => exact congrArg _ (ns_inj hn'.2 j k x h1 h2)
theorem fn_ok {W : Wld} (hW : W.Ok) {k : Bool} {C : CallForm} {tr : Spec} {a : Addr} {fd : FuncData} {T : Tx} {mini : SL} {body : List Stmt} {full : List V → List V}
    (hm : W.mg C.name = some (.ref a)) (D : Def W.hb a fd T.sc body) (hcf : T.cf = W.G.map (·.1)) (hgn : T.gn = W.gn) (hsl : okSlots T = true) (his : isSL T mini body = true) (hok : okSL W.pc k mini = true)
    (hbind : ∀ (s : Shared) φ us vs ws hp Q, Keep W.hb s.heap → Reps φ us (vs ++ ws) → ws.length = C.kws.length → tr us hp Q → ∃ binds vals, BindsTo s fd ⟨vs, C.kws.zip ws⟩ binds ∧ (binds.map (·.1)).Nodup ∧ (∀ x ∈ binds, some x.1 ∈ T.ns) ∧
      Reps φ (full us) vals ∧ ∀ (i : Nat) x v, T.ns[i]? = some (some x) → vals[i]? = some v → (x, v) ∈ binds)
    (htr : ∀ us hp Q φ s, HeapRep φ hp s → W.GV φ → tr us hp Q → wSL W.G W.gs hp.length mini ⟨fun i => (full us)[i]?, hp⟩ fun fl st => ∃ r, fl = .ret r ∧ Q r st.hp) :
    FnOK W k (W.n + 1) C tr := by
  obtain ⟨o, ho, hd⟩ := D.obj
  refine ⟨a, o, fd, hm, ho, hd, fun A s φ hp us vs ws Q R K H gv reps hlen q => ?_⟩
  unfold okSlots at hsl
  simp only [Bool.and_eq_true, List.all_eq_true, beq_iff_eq, decide_eq_true_eq, Bool.not_eq_true'] at hsl
  obtain ⟨⟨⟨⟨⟨c1, c2⟩, c3⟩, c4⟩, c5⟩, c6⟩ := hsl
  refine bc fun no => ?_
  obtain ⟨binds, vals, hb, hnd, hin, hrep, hval⟩ := hbind s φ us vs ws hp Q K reps hlen q
  refine no ?_
  have hkinds : ∀ x, some x ∈ T.ns → T.sc.names.lookup x = some .local ∨ T.sc.names.lookup x = some .cell := fun x hx => by
    have := c5 _ hx
    simpa using this
  have hsc := D.scope
  have cov : ∀ n x, T.sc.names.lookup x = some .cell → ((cellsFrom n fd.scope.names []).lookup x).isSome = true := fun n x hx => by
    rw [hsc]
    exact cells_cover _ _ _ _ (.inl (mem_of_lookup hx))
  refine codeK.call_fn (Nat.lt_of_le_of_lt (Nat.le_add_right _ _) R.depth) (K _ _ ho) hd (hW.base.lim.keeps K) (D.code.keeps K) D.body hb D.clo (by rw [hsc]; exact c2) (by rw [hsc]; exact c3) (by rw [hsc]; exact c1) (fun x hx => ?_) (fun s₁ X => ?_)
  · rw [hsc]
    rcases hkinds x.1 (hin x hx) with h | h
    · exact .inl h
    · exact .inr ⟨h, by have := cov (s.heap.objs.size + 1) x.1 h; rwa [hsc] at this⟩
  · generalize hE : callEnvC fd s.heap.objs.size a = env at X ⊢
    have esc : env.scope = T.sc := by rw [← hE]; exact hsc
    have eloc : env.locals = s.heap.objs.size := by rw [← hE]; rfl
    have ecel : env.cells = cellsFrom (s.heap.objs.size + 1) fd.scope.names [] := by rw [← hE]; rfl
    have ek : ∀ x, env.kindOf x = T.sc.names.lookup x := fun x => by unfold Env.kindOf; rw [esc]
    have es : EnvS T env := ⟨by rw [esc]; exact c1, by rw [← hE]; exact D.glob, by rw [← hE]; exact D.bui, fun x hx => by rw [ek]; exact hx, fun _ => ⟨esc, fun x hx => by
      have := cov (s.heap.objs.size + 1) x hx
      rw [← ecel] at this
      exact Option.isSome_iff_exists.mp this⟩⟩
    have F : Frame W T env (A.deeper env) := by
      refine ⟨es, hcf, hgn, ⟨?_, ?_, R.handled⟩, X.apart, fun i x hx => ?_, ns_inj c6⟩
      · have := R.depth
        show A.depth + 1 + W.n < recursionLimit
        omega
      · have := R.units
        show A.units + 3 + 8 * W.n + 200 < cLine
        omega
      · rw [ek]
        rcases hkinds x (List.mem_of_getElem? hx) with h | h
        · exact .inl h
        · exact .inr ⟨h, by
            have := cov (s.heap.objs.size + 1) x h
            rw [← ecel] at this
            exact Option.isSome_iff_exists.mp this⟩
    refine bc fun no => ?_
    obtain ⟨h', tk, hs1, keep1⟩ := X.done
    refine no ?_
    have keep : Keep s.heap s₁.heap := by rw [hs1]; exact keep1
    have S : Sim W T env (fun b => s.heap.get? b) φ s ⟨fun i => (full us)[i]?, hp⟩ φ s₁ := by
      refine ⟨K, keep, by rw [hs1], by rw [hs1], by rw [hs1], List.prefix_refl _, gv, H.mono keep, fun j b hj e => (by rw [List.getElem?_eq_none hj] at e; cases e), fun i x v hx hv => ?_, ⟨_, X.toInCall.ns⟩, ?_, fun x c hc => ⟨⟨_, X.cell x c hc⟩, ?_⟩⟩
      · have hr : ∃ w, vals[i]? = some w ∧ Rep φ v w := hrep.get hv
        obtain ⟨w, hw, hr⟩ := hr
        refine ⟨w, hr, ?_⟩
        have hmem := hval i x w hx hw
        rcases hkinds x (List.mem_of_getElem? hx) with h | h
        · exact .inl ⟨by rw [ek]; exact h, _, X.toInCall.ns, bindL_get hnd (by rw [ek]; exact h) (.inl hmem)⟩
        · have hcs := cov (s.heap.objs.size + 1) x h
          rw [← ecel] at hcs
          obtain ⟨c, hc⟩ := Option.isSome_iff_exists.mp hcs
          refine .inr ⟨by rw [ek]; exact h, c, hc, ?_⟩
          have := X.cell x c hc
          rwa [bindC_get hnd (by rw [ek]; exact h) (.inl hmem)] at this
      · show s.heap.get? env.locals = none
        rw [eloc]; exact fresh_size _
      · show s.heap.get? c = none
        have := X.above x c (mem_of_lookup hc)
        rw [eloc] at this
        exact fresh_of (Nat.le_of_lt this)
    have q' := htr us hp Q φ s.heap H gv q
    rw [← H.len] at q'
    refine (all_SL hW mini k T env (A.deeper env) _ φ s _ φ s₁ body _ his hok F S q').mono fun f s2 h2 => ?_
    refine bc fun no => ?_
    obtain ⟨φ2, st2, fl, S2, hf, r, rfl, hq⟩ := h2
    refine no ?_
    obtain ⟨v, rfl, hres⟩ := hf
    refine ⟨v, rfl, φ2, st2.hp, r, ⟨fun b o e => S2.keep b o e, S2.gens, S2.os, S2.drawn, S2.pre, S2.own⟩, S2.heap, hres, hq⟩
end Mine
end
section
open PySem PyProof.Rows
open Sem (wp)
namespace Mine
local macro_rules | `(tactic| omega) => `(tactic| first | assumption | lia | omega +splitDisjunctions)
noncomputable def VVia (ρ : List Nat) : V → V → Prop
  | .ref j, v' => ∃ k, ρ[j]? = some k ∧ v' = .ref k
  | v, v' => v' = v
noncomputable def VsVia (ρ : List Nat) : List V → List V → Prop
  | [], [] => True
  | u :: us, v :: vs => VVia ρ u v ∧ VsVia ρ us vs
  | _, _ => False
noncomputable def ResVia (ρ : List Nat) : Res → Res → Prop
  | .one u, .one u' => VVia ρ u u'
  | .many t us, .many t' us' => t = t' ∧ VsVia ρ us us'
  | _, _ => False
noncomputable def RetsV (n : Nat) (Q : Res → List O → Prop) (fl : Fl) (st : St) : Prop :=
  ∃ r', fl = .ret r' ∧ ∃ ρ st3 r, View n ρ st st3 ∧ ResVia ρ r r' ∧ Q r st3.hp
theorem rep_via {ρ : List Nat} {φ φ' : List Addr} (key : ∀ (j : Nat) a, φ'[j]? = some a ↔ ∃ i, ρ[j]? = some i ∧ φ[i]? = some a) {u u' : V} {w : Value} (h : VVia ρ u u') (r : Rep φ u' w) : Rep φ' u w := by
  induction u with
  | ref j =>
    obtain ⟨k, e, rfl⟩ := h
    obtain ⟨a, e', rfl⟩ := r
    exact ⟨a, (key j a).mpr ⟨k, e, e'⟩, rfl⟩
  | none => cases h; exact r
  | bool b => cases h; exact r
  | int i => cases h; exact r
theorem reps_via {ρ : List Nat} {φ φ' : List Addr} (key : ∀ (j : Nat) a, φ'[j]? = some a ↔ ∃ i, ρ[j]? = some i ∧ φ[i]? = some a) : ∀ {us us' : List V} {ws : List Value}, VsVia ρ us us' → Reps φ us' ws → Reps φ' us ws
  | [], [], [], _, _ => trivial
  | u :: us, u' :: us', w :: ws, h, r => ⟨rep_via key h.1 r.1, reps_via key h.2 r.2⟩
  | [], _ :: _, _, h, _ => h.elim
  | _ :: _, [], _, h, _ => h.elim
  | [], [], _ :: _, _, r => r.elim
  | _ :: _, _ :: _, [], _, r => r.elim
theorem res_via {ρ : List Nat} {φ φ' : List Addr} (key : ∀ (j : Nat) a, φ'[j]? = some a ↔ ∃ i, ρ[j]? = some i ∧ φ[i]? = some a) {h : Heap} {r r' : Res} {v : Value} (x : ResVia ρ r r') (y : ResRep φ h r' v) : ResRep φ' h r v := by
  induction r with
  | one u => induction r' with
    | one u' => exact rep_via key x y
    | many t us => exact x.elim
  | many t us => induction r' with
    | one u' => exact x.elim
    | many t' us' =>
      obtain ⟨rfl, x⟩ := x
      obtain ⟨a, vs, e, r, z⟩ := y
      exact ⟨a, vs, e, reps_via key x r, z⟩
theorem fn_okV {W : Wld} (hW : W.Ok) {k : Bool} {C : CallForm} {tr : Spec} {a : Addr} {fd : FuncData} {T : Tx} {mini : SL} {body : List Stmt} {full : List V → List V}
    (hm : W.mg C.name = some (.ref a)) (D : Def W.hb a fd T.sc body) (hcf : T.cf = W.G.map (·.1)) (hgn : T.gn = W.gn) (hsl : okSlots T = true) (his : isSL T mini body = true) (hok : okSL W.pc k mini = true)
    (hbind : ∀ (s : Shared) φ us vs ws hp Q, Keep W.hb s.heap → Reps φ us (vs ++ ws) → ws.length = C.kws.length → tr us hp Q → ∃ binds vals, BindsTo s fd ⟨vs, C.kws.zip ws⟩ binds ∧ (binds.map (·.1)).Nodup ∧ (∀ x ∈ binds, some x.1 ∈ T.ns) ∧
      Reps φ (full us) vals ∧ ∀ (i : Nat) x v, T.ns[i]? = some (some x) → vals[i]? = some v → (x, v) ∈ binds)
    (htr : ∀ us hp Q, tr us hp Q → wSL W.G W.gs hp.length mini ⟨fun i => (full us)[i]?, hp⟩ (RetsV hp.length Q)) :
    FnOK W k (W.n + 1) C tr := by
  obtain ⟨o, ho, hd⟩ := D.obj
  refine ⟨a, o, fd, hm, ho, hd, fun A s φ hp us vs ws Q R K H gv reps hlen q => ?_⟩
  unfold okSlots at hsl
  simp only [Bool.and_eq_true, List.all_eq_true, beq_iff_eq, decide_eq_true_eq, Bool.not_eq_true'] at hsl
  obtain ⟨⟨⟨⟨⟨c1, c2⟩, c3⟩, c4⟩, c5⟩, c6⟩ := hsl
  refine bc fun no => ?_
  obtain ⟨binds, vals, hb, hnd, hin, hrep, hval⟩ := hbind s φ us vs ws hp Q K reps hlen q
  refine no ?_
  have hkinds : ∀ x, some x ∈ T.ns → T.sc.names.lookup x = some .local ∨ T.sc.names.lookup x = some .cell := fun x hx => by
    have := c5 _ hx
    simpa using this
  have hsc := D.scope
  have cov : ∀ n x, T.sc.names.lookup x = some .cell → ((cellsFrom n fd.scope.names []).lookup x).isSome = true := fun n x hx => by
    rw [hsc]
    exact cells_cover _ _ _ _ (.inl (mem_of_lookup hx))
  refine codeK.call_fn (Nat.lt_of_le_of_lt (Nat.le_add_right _ _) R.depth) (K _ _ ho) hd (hW.base.lim.keeps K) (D.code.keeps K) D.body hb D.clo (by rw [hsc]; exact c2) (by rw [hsc]; exact c3) (by rw [hsc]; exact c1) (fun x hx => ?_) (fun s₁ X => ?_)
  · rw [hsc]
    rcases hkinds x.1 (hin x hx) with h | h
    · exact .inl h
    · exact .inr ⟨h, by have := cov (s.heap.objs.size + 1) x.1 h; rwa [hsc] at this⟩
  · generalize hE : callEnvC fd s.heap.objs.size a = env at X ⊢
    have esc : env.scope = T.sc := by rw [← hE]; exact hsc
    have eloc : env.locals = s.heap.objs.size := by rw [← hE]; rfl
    have ecel : env.cells = cellsFrom (s.heap.objs.size + 1) fd.scope.names [] := by rw [← hE]; rfl
    have ek : ∀ x, env.kindOf x = T.sc.names.lookup x := fun x => by unfold Env.kindOf; rw [esc]
    have es : EnvS T env := ⟨by rw [esc]; exact c1, by rw [← hE]; exact D.glob, by rw [← hE]; exact D.bui, fun x hx => by rw [ek]; exact hx, fun _ => ⟨esc, fun x hx => by
      have := cov (s.heap.objs.size + 1) x hx
      rw [← ecel] at this
      exact Option.isSome_iff_exists.mp this⟩⟩
    have F : Frame W T env (A.deeper env) := by
      refine ⟨es, hcf, hgn, ⟨?_, ?_, R.handled⟩, X.apart, fun i x hx => ?_, ns_inj c6⟩
      · have := R.depth
        show A.depth + 1 + W.n < recursionLimit
        omega
      · have := R.units
        show A.units + 3 + 8 * W.n + 200 < cLine
        omega
      · rw [ek]
        rcases hkinds x (List.mem_of_getElem? hx) with h | h
        · exact .inl h
        · exact .inr ⟨h, by
            have := cov (s.heap.objs.size + 1) x h
            rw [← ecel] at this
            exact Option.isSome_iff_exists.mp this⟩
    refine bc fun no => ?_
    obtain ⟨h', tk, hs1, keep1⟩ := X.done
    refine no ?_
    have keep : Keep s.heap s₁.heap := by rw [hs1]; exact keep1
    have S : Sim W T env (fun b => s.heap.get? b) φ s ⟨fun i => (full us)[i]?, hp⟩ φ s₁ := by
      refine ⟨K, keep, by rw [hs1], by rw [hs1], by rw [hs1], List.prefix_refl _, gv, H.mono keep, fun j b hj e => (by rw [List.getElem?_eq_none hj] at e; cases e), fun i x v hx hv => ?_, ⟨_, X.toInCall.ns⟩, ?_, fun x c hc => ⟨⟨_, X.cell x c hc⟩, ?_⟩⟩
      · have hr : ∃ w, vals[i]? = some w ∧ Rep φ v w := hrep.get hv
        obtain ⟨w, hw, hr⟩ := hr
        refine ⟨w, hr, ?_⟩
        have hmem := hval i x w hx hw
        rcases hkinds x (List.mem_of_getElem? hx) with h | h
        · exact .inl ⟨by rw [ek]; exact h, _, X.toInCall.ns, bindL_get hnd (by rw [ek]; exact h) (.inl hmem)⟩
        · have hcs := cov (s.heap.objs.size + 1) x h
          rw [← ecel] at hcs
          obtain ⟨c, hc⟩ := Option.isSome_iff_exists.mp hcs
          refine .inr ⟨by rw [ek]; exact h, c, hc, ?_⟩
          have := X.cell x c hc
          rwa [bindC_get hnd (by rw [ek]; exact h) (.inl hmem)] at this
      · show s.heap.get? env.locals = none
        rw [eloc]; exact fresh_size _
      · show s.heap.get? c = none
        have := X.above x c (mem_of_lookup hc)
        rw [eloc] at this
        exact fresh_of (Nat.le_of_lt this)
    have q' := htr us hp Q q
    rw [← H.len] at q'
    refine (all_SL hW mini k T env (A.deeper env) _ φ s _ φ s₁ body _ his hok F S q').mono fun f s2 h2 => ?_
    refine bc fun no => ?_
    obtain ⟨φ2, st2, fl, S2, hf, r', rfl, ρ, st3, r, v, hv, hq⟩ := h2
    refine no ?_
    obtain ⟨φ3, S3, key⟩ := S2.view v
    obtain ⟨w, rfl, hres⟩ := hf
    refine ⟨w, rfl, φ3, st3.hp, r, ⟨fun b o e => S3.keep b o e, S3.gens, S3.os, S3.drawn, S3.pre, S3.own⟩, S3.heap, res_via key hv hres, hq⟩
theorem Room.le {m n : Nat} (h : m ≤ n) {A : Around} (R : Room n A) : Room m A :=
  ⟨by have := R.depth; omega, by have := R.units; omega, R.handled⟩
theorem FnOK.mono {W W' : Wld} (h1 : W'.prog = W.prog) (h2 : W'.w = W.w) (h3 : W'.hb = W.hb) (h4 : W'.mg = W.mg) (h5 : W'.gn = W.gn) (h6 : W'.gs = W.gs) {k : Bool} {m n : Nat} (hmn : m ≤ n) {C : CallForm} {tr : Spec} (h : FnOK W k m C tr) : FnOK W' k n C tr := by
  obtain ⟨prog, w, hb, mg, mb, G, gn, gs, pc, d⟩ := W
  obtain ⟨prog', w', hb', mg', mb', G', gn', gs', pc', d'⟩ := W'
  subst h1 h2 h3 h4 h5 h6
  refine bc fun no => ?_
  obtain ⟨a, o, fd, e1, e2, e3, e4⟩ := h
  refine no ?_
  exact ⟨a, o, fd, e1, e2, e3, fun A s φ hp us vs ws Q R K H gv r l q => e4 A s φ hp us vs ws Q (R.le hmn) K H gv r l q⟩
noncomputable def Agree (l : Loc) : List (Option V) → Nat → Prop
  | [], _ => True
  | none :: r, k => Agree l r (k + 1)
  | some v :: r, k => l k = some v ∧ Agree l r (k + 1)
noncomputable def viaV (n : Nat) (is : List Nat) : V → V
  | .ref j => .ref (if j < n then j else n + is.getD (j - n) 0)
  | v => v
noncomputable def OkV (n : Nat) (is : List Nat) : V → Prop
  | .ref j => j < n + is.length
  | _ => True
noncomputable def Via (n : Nat) (is : List Nat) (l : Loc) : List (Option V) → Nat → Prop
  | [], _ => True
  | none :: r, k => Via n is l r (k + 1)
  | some v :: r, k => OkV n is v ∧ l k = some (viaV n is v) ∧ Via n is l r (k + 1)
noncomputable def L (vs : List (Option V)) : Loc := fun j => (vs[j]?).getD none
theorem Via.get {n : Nat} {is : List Nat} {l : Loc} : ∀ {vs : List (Option V)} {k : Nat}, Via n is l vs k → ∀ (j : Nat) v, vs[j]? = some (some v) → OkV n is v ∧ l (k + j) = some (viaV n is v)
  | [], _, _, j, v, h => by simp at h
  | none :: r, k, x, 0, v, h => by simp at h
  | none :: r, k, x, j + 1, v, h => by
    have := Via.get (vs := r) (k := k + 1) x j v (by simpa using h)
    rw [show k + (j + 1) = k + 1 + j by omega]; exact this
  | some u :: r, k, x, 0, v, h => by
    simp only [List.getElem?_cons_zero, Option.some.injEq] at h
    subst h; exact ⟨x.1, x.2.1⟩
  | some u :: r, k, x, j + 1, v, h => by
    have := Via.get (vs := r) (k := k + 1) x.2.2 j v (by simpa using h)
    rw [show k + (j + 1) = k + 1 + j by omega]; exact this
theorem agree_L_go (vs : List (Option V)) : ∀ (r : List (Option V)) (k : Nat), (∀ j : Nat, r[j]? = vs[k + j]?) → Agree (L vs) r k
  | [], _, _ => trivial
  | none :: r, k, h => agree_L_go vs r (k + 1) fun j => by
      have := h (j + 1)
      rw [show k + 1 + j = k + (j + 1) by omega, ← this]; rfl
  | some v :: r, k, h => ⟨by
      have := h 0
      simp only [List.getElem?_cons_zero, Nat.add_zero] at this
      simp only [L, ← this]; rfl, agree_L_go vs r (k + 1) fun j => by
      have := h (j + 1)
      rw [show k + 1 + j = k + (j + 1) by omega, ← this]; rfl⟩
theorem agree_L (vs : List (Option V)) : Agree (L vs) vs 0 := agree_L_go vs vs 0 fun j => by rw [Nat.zero_add]
noncomputable def rho (n : Nat) (is : List Nat) : List Nat := List.range n ++ is.map (n + ·)
theorem rho_new {n : Nat} {is : List Nat} (i : Nat) : (rho n is)[n + i]? = (is[i]?).map (n + ·) := by
  unfold rho
  rw [List.getElem?_append_right (by simp), List.getElem?_map]; simp
theorem rho_old {n : Nat} {is : List Nat} {j : Nat} (h : j < n) : (rho n is)[j]? = some j := by
  unfold rho
  rw [List.getElem?_append_left (by simpa using h), List.getElem?_range h]
theorem view_mk {hp t t' : List O} {l : Loc} {vs : List (Option V)} (is : List Nat) (hnd : is.Nodup) (ho : is.map (fun i => t[i]?) = t'.map some) (hv : Via hp.length is l vs 0) :
    View hp.length (rho hp.length is) ⟨l, hp ++ t⟩ ⟨L vs, hp ++ t'⟩ := by
  have hl : is.length = t'.length := by have := congrArg List.length ho; simpa using this
  refine ⟨by simp [rho, hl], ?_, fun j hj => rho_old hj, fun j k e => ?_, fun x v e => ?_⟩
  · unfold rho
    rw [List.nodup_append]
    refine ⟨List.nodup_range, ?_, fun a ha b hb => ?_⟩
    · rw [List.nodup_iff_pairwise_ne, List.pairwise_map]
      exact (List.nodup_iff_pairwise_ne.mp hnd).imp fun h e => h (by omega)
    · simp only [List.mem_range] at ha
      simp only [List.mem_map] at hb
      obtain ⟨i, _, rfl⟩ := hb
      omega
  · rcases Nat.lt_or_ge j hp.length with h | h
    · rw [rho_old h] at e
      cases e
      exact ⟨hp[j], (List.getElem?_append_left h).trans (List.getElem?_eq_getElem h), (List.getElem?_append_left h).trans (List.getElem?_eq_getElem h)⟩
    · obtain ⟨i, rfl⟩ := Nat.exists_eq_add_of_le h
      rw [rho_new, Option.map_eq_some_iff] at e
      obtain ⟨m, em, rfl⟩ := e
      have := congrArg (fun x => x[i]?) ho
      simp only [List.getElem?_map, em, Option.map_some] at this
      rw [eq_comm, Option.map_eq_some_iff] at this
      obtain ⟨o, e1, e2⟩ := this
      refine ⟨o, ?_, ?_⟩
      · show (hp ++ t)[hp.length + m]? = some o
        rw [List.getElem?_append_right (by omega), Nat.add_sub_cancel_left]; exact e2.symm
      · show (hp ++ t')[hp.length + i]? = some o
        rw [List.getElem?_append_right (by omega), Nat.add_sub_cancel_left]; exact e1
  · have e' : vs[x]? = some (some v) := by
      simp only [L] at e
      induction hx : vs[x]? with
      | none => rw [hx] at e; cases e
      | some o => rw [hx] at e; exact congrArg some e
    have := hv.get x v e'
    rw [Nat.zero_add] at this
    induction v with
    | ref j =>
      obtain ⟨h1, h2⟩ := this
      simp only [OkV] at h1
      simp only [viaV] at h2
      by_cases hj : j < hp.length
      · rw [if_pos hj] at h2
        exact ⟨j, rho_old hj, h2⟩
      · rw [if_neg hj] at h2
        obtain ⟨i, rfl⟩ := Nat.exists_eq_add_of_le (Nat.not_lt.mp hj)
        rw [Nat.add_sub_cancel_left] at h2
        have hi : i < is.length := by omega
        refine ⟨_, ?_, h2⟩
        rw [rho_new, List.getElem?_eq_getElem hi, List.getD_eq_getElem?_getD, List.getElem?_eq_getElem hi]; rfl
    | none => exact this.2
    | bool b => exact this.2
    | int i => exact this.2
theorem next_view {hp t t' : List O} {l : Loc} {vs : List (Option V)} {J : St → Prop} (is : List Nat) (hnd : is.Nodup) (ho : is.map (fun i => t[i]?) = t'.map some) (hv : Via hp.length is l vs 0)
    (hJ : J ⟨L vs, hp ++ t'⟩) : True ∧ ∃ ρ st3, View hp.length ρ ⟨l, hp ++ t⟩ st3 ∧ J st3 :=
  ⟨trivial, _, _, view_mk is hnd ho hv, hJ⟩
theorem next_viewM {hp t t' : List O} {l : Loc} {vs : List (Option V)} {J : Nat → St → Prop} {m : Nat} (is : List Nat) (hnd : is.Nodup) (ho : is.map (fun i => t[i]?) = t'.map some) (hv : Via hp.length is l vs 0) (m' : Nat) (hm : m' < m)
    (hJ : J m' ⟨L vs, hp ++ t'⟩) : True ∧ ∃ ρ st3 m', View hp.length ρ ⟨l, hp ++ t⟩ st3 ∧ m' < m ∧ J m' st3 :=
  ⟨trivial, _, _, m', view_mk is hnd ho hv, hm, hJ⟩
theorem rets_int {hp t : List O} {l : Loc} {Q : Res → List O → Prop} {i : Int} (h : Q (.one (.int i)) hp) : RetsV hp.length Q (.ret (.one (.int i))) ⟨l, hp ++ t⟩ :=
  ⟨_, rfl, _, _, .one (.int i), view_mk (t' := []) (vs := []) [] (by simp) rfl trivial, rfl, by simpa using h⟩
theorem rets_bool {hp t : List O} {l : Loc} {Q : Res → List O → Prop} {i : Bool} (h : Q (.one (.bool i)) hp) : RetsV hp.length Q (.ret (.one (.bool i))) ⟨l, hp ++ t⟩ :=
  ⟨_, rfl, _, _, .one (.bool i), view_mk (t' := []) (vs := []) [] (by simp) rfl trivial, rfl, by simpa using h⟩
theorem rets_int0 {hp : List O} {l : Loc} {Q : Res → List O → Prop} {i : Int} (h : Q (.one (.int i)) hp) : RetsV hp.length Q (.ret (.one (.int i))) ⟨l, hp⟩ := by
  have := rets_int (t := []) (l := l) h
  rwa [List.append_nil] at this
theorem rets_bool0 {hp : List O} {l : Loc} {Q : Res → List O → Prop} {i : Bool} (h : Q (.one (.bool i)) hp) : RetsV hp.length Q (.ret (.one (.bool i))) ⟨l, hp⟩ := by
  have := rets_bool (t := []) (l := l) h
  rwa [List.append_nil] at this
theorem rets_ref {hp t : List O} {l : Loc} {Q : Res → List O → Prop} {i : Nat} {o : O} (e : t[i]? = some o) (h : Q (.one (.ref hp.length)) (hp ++ [o])) : RetsV hp.length Q (.ret (.one (.ref (hp.length + i)))) ⟨l, hp ++ t⟩ :=
  ⟨_, rfl, _, _, .one (.ref hp.length), view_mk (t' := [o]) (vs := []) [i] (by simp) (by simp [e]) trivial, ⟨hp.length + i, by have := rho_new (n := hp.length) (is := [i]) 0; simpa using this, rfl⟩, h⟩
theorem rets_many {hp t t' : List O} {l : Loc} {Q : Res → List O → Prop} {tup : Bool} {us us' : List V} (is : List Nat) (hnd : is.Nodup) (ho : is.map (fun i => t[i]?) = t'.map some) (hu : us'.map (fun v => v) = us.map (viaV hp.length is)) (hok : ∀ v ∈ us, OkV hp.length is v)
    (h : Q (.many tup us) (hp ++ t')) : RetsV hp.length Q (.ret (.many tup us')) ⟨l, hp ++ t⟩ := by
  refine ⟨_, rfl, _, _, .many tup us, view_mk (vs := []) is hnd ho trivial, ⟨rfl, ?_⟩, h⟩
  have hu' : us' = us.map (viaV hp.length is) := by simpa using hu
  clear hu h
  induction us generalizing us' with
  | nil => subst hu'; trivial
  | cons u us ih =>
    subst hu'
    refine ⟨?_, ih (fun v hv => hok v (List.mem_cons_of_mem _ hv)) rfl⟩
    have hk := hok u List.mem_cons_self
    induction u with
    | ref j =>
      simp only [OkV] at hk
      simp only [viaV]
      by_cases hj : j < hp.length
      · rw [if_pos hj]; exact ⟨j, rho_old hj, rfl⟩
      · rw [if_neg hj]
        obtain ⟨i, rfl⟩ := Nat.exists_eq_add_of_le (Nat.not_lt.mp hj)
        have hi : i < is.length := by omega
        refine ⟨_, ?_, rfl⟩
        rw [rho_new, Nat.add_sub_cancel_left, List.getElem?_eq_getElem hi, List.getD_eq_getElem?_getD, List.getElem?_eq_getElem hi]; rfl
    | _ => rfl
noncomputable def setL : List (Option V) → Nat → V → List (Option V)
  | _ :: r, 0, v => some v :: r
  | a :: r, k + 1, v => a :: setL r k v
  | [], 0, v => [some v]
  | [], k + 1, v => none :: setL [] k v
theorem L_get (vs : List (Option V)) (k : Nat) : L vs k = (vs[k]?).getD none := rfl
theorem setL_get : ∀ (vs : List (Option V)) (k : Nat) (v : V) (j : Nat), ((setL vs k v)[j]?).getD none = if j = k then some v else (vs[j]?).getD none
  | _ :: r, 0, v, 0 => rfl
  | _ :: r, 0, v, j + 1 => by simp [setL]
  | a :: r, k + 1, v, 0 => by simp [setL]
  | a :: r, k + 1, v, j + 1 => by have := setL_get r k v j; simpa [setL] using this
  | [], 0, v, 0 => rfl
  | [], 0, v, j + 1 => by simp [setL]
  | [], k + 1, v, 0 => by simp [setL]
  | [], k + 1, v, j + 1 => by have := setL_get [] k v j; simpa [setL] using this
theorem L_set (vs : List (Option V)) (k : Nat) (v : V) : (L vs).set k v = L (setL vs k v) := by
  funext j
  rw [L_get, setL_get]; rfl
theorem L_start (us : List V) : (fun i => us[i]?) = L (us.map some) := by
  funext j
  rw [L_get, List.getElem?_map]
  cases us[j]? <;> rfl
end Mine
end
section
open PySem PyProof.Rows
namespace Mine
theorem L_pad (us : List V) (k : Nat) : (fun i => us[i]?) = L (us.map some ++ List.replicate k none) := by
  funext j
  rw [L_get]
  rcases Nat.lt_or_ge j us.length with h | h
  · rw [List.getElem?_append_left (by simpa using h), List.getElem?_map, List.getElem?_eq_getElem h]; rfl
  · rw [List.getElem?_append_right (by simpa using h), List.getElem?_eq_none h, List.getElem?_replicate]
    split <;> rfl
theorem rep_z {α : Type} {a : α} : List.replicate 0 a = [] := rfl
theorem rep_s {α : Type} {a : α} {n : Nat} : List.replicate (n + 1) a = a :: List.replicate n a := rfl
section
variable {Gf : Fns} {gs : List V} {n : Nat} {Q : QS} {loc : Loc} {hp : List O} {st : St}
theorem turn {hp t t' : List O} {l : Loc} {vs : List (Option V)} {J : St → Prop} (is : List Nat) (hnd : is.Nodup) (ho : is.map (fun i => t[i]?) = t'.map some) (hv : Via hp.length is l vs 0)
    (hJ : J ⟨L vs, hp ++ t'⟩) : Turn hp.length J .next ⟨l, hp ++ t⟩ :=
  ⟨rfl, _, _, view_mk is hnd ho hv, hJ⟩
theorem via_none {n k : Nat} {is : List Nat} {l : Loc} {r : List (Option V)} (h : Via n is l r (k + 1)) : Via n is l (none :: r) k := h
theorem via_int {n k : Nat} {is : List Nat} {l : Loc} {r : List (Option V)} {i : Int} (e : l k = some (.int i)) (h : Via n is l r (k + 1)) : Via n is l (some (.int i) :: r) k := ⟨trivial, e, h⟩
theorem via_bool {n k : Nat} {is : List Nat} {l : Loc} {r : List (Option V)} {i : Bool} (e : l k = some (.bool i)) (h : Via n is l r (k + 1)) : Via n is l (some (.bool i) :: r) k := ⟨trivial, e, h⟩
theorem via_non {n k : Nat} {is : List Nat} {l : Loc} {r : List (Option V)} (e : l k = some .none) (h : Via n is l r (k + 1)) : Via n is l (some .none :: r) k := ⟨trivial, e, h⟩
theorem via_old {n k a : Nat} {is : List Nat} {l : Loc} {r : List (Option V)} (ha : a < n) (e : l k = some (.ref a)) (h : Via n is l r (k + 1)) : Via n is l (some (.ref a) :: r) k :=
  ⟨Nat.lt_of_lt_of_le ha (Nat.le_add_right _ _), by rw [viaV, if_pos ha]; exact e, h⟩
theorem via_new {n k i j : Nat} {is : List Nat} {l : Loc} {r : List (Option V)} (hi : is[i]? = some j) (e : l k = some (.ref (n + j))) (h : Via n is l r (k + 1)) : Via n is l (some (.ref (n + i)) :: r) k :=
  ⟨Nat.add_lt_add_left (List.getElem?_eq_some_iff.mp hi).1 n, by rw [viaV, if_neg (by omega), Nat.add_sub_cancel_left, List.getD_eq_getElem?_getD, hi]; exact e, h⟩
theorem via_new0 {n k j : Nat} {is : List Nat} {l : Loc} {r : List (Option V)} (hi : is[0]? = some j) (e : l k = some (.ref (n + j))) (h : Via n is l r (k + 1)) : Via n is l (some (.ref n) :: r) k := via_new (i := 0) hi e h
theorem via_rng {n k i m : Nat} {l : Loc} {r : List (Option V)} (hi : i < m) (e : l k = some (.ref (n + i))) (h : Via n (List.range m) l r (k + 1)) : Via n (List.range m) l (some (.ref (n + i)) :: r) k := via_new (List.getElem?_range hi) e h
theorem via_rng0 {n k m : Nat} {l : Loc} {r : List (Option V)} (hi : 0 < m) (e : l k = some (.ref n)) (h : Via n (List.range m) l r (k + 1)) : Via n (List.range m) l (some (.ref n) :: r) k := via_rng (i := 0) hi e h
theorem via_at (i : Nat) {n k j x : Nat} {is : List Nat} {l : Loc} {r : List (Option V)} (hx : x = n + i) (hi : is[i]? = some j) (e : l k = some (.ref (n + j))) (h : Via n is l r (k + 1)) : Via n is l (some (.ref x) :: r) k := by
  subst hx; exact via_new hi e h
theorem turn0 {hp : List O} {l : Loc} {vs : List (Option V)} {J : St → Prop} (hv : Via hp.length [] l vs 0) (hJ : J ⟨L vs, hp⟩) : Turn hp.length J .next ⟨l, hp⟩ := by
  have := turn (hp := hp) (t := []) (t' := []) (J := J) [] (by decide) rfl hv (by rwa [List.append_nil])
  rwa [List.append_nil] at this
theorem st_eq {hp t t' : List O} {vs vs' : List (Option V)} (h1 : vs = vs') (h2 : t = t') : (⟨L vs, hp ++ t⟩ : St) = ⟨L vs', hp ++ t'⟩ := by subst h1 h2; rfl
theorem turnM {hp t t' : List O} {l : Loc} {vs : List (Option V)} {J : Nat → St → Prop} {m : Nat} (is : List Nat) (hnd : is.Nodup) (ho : is.map (fun i => t[i]?) = t'.map some) (hv : Via hp.length is l vs 0) (m' : Nat) (hm : m' < m)
    (hJ : J m' ⟨L vs, hp ++ t'⟩) : TurnM hp.length m J .next ⟨l, hp ++ t⟩ :=
  ⟨rfl, _, _, m', view_mk is hnd ho hv, hm, hJ⟩
end
section
variable {Gf : Fns} {gs : List V} {loc : Loc} {hp : List O} {Q : QE} {P : Bool → List O → Prop}
theorem x_L {k : Nat} {vs : List (Option V)} : wX Gf gs (.loc k) (L vs) hp Q = match (vs[k]?).getD none with | some v => Q v hp | none => False := rfl
theorem k_loc {k : Nat} {vs : List (Option V)} : wC Gf gs (.loc k) (L vs) hp P = match (vs[k]?).getD none with | some v => wTruth v hp P | none => False := rfl
end
end Mine
end
section
namespace Mine
namespace G
noncomputable def xt (x : Nat) : Nat := if x < 128 then 2 * x else (2 * x) ^^^ 285
noncomputable def EXP1 : List Nat := [1, 2, 4, 8, 16, 32, 64, 128, 29, 58, 116, 232, 205, 135, 19, 38, 76, 152, 45, 90, 180, 117, 234, 201, 143, 3, 6, 12, 24, 48, 96, 192, 157, 39, 78, 156, 37, 74, 148, 53, 106, 212, 181, 119, 238, 193, 159, 35, 70, 140, 5, 10, 20, 40, 80, 160, 93, 186, 105, 210, 185, 111, 222, 161, 95, 190, 97, 194, 153, 47, 94, 188, 101, 202, 137, 15, 30, 60, 120, 240, 253, 231, 211, 187, 107, 214, 177, 127, 254, 225, 223, 163, 91, 182, 113, 226, 217, 175, 67, 134, 17, 34, 68, 136, 13, 26, 52, 104, 208, 189, 103, 206, 129, 31, 62, 124, 248, 237, 199, 147, 59, 118, 236, 197, 151, 51, 102, 204, 133, 23, 46, 92, 184, 109, 218, 169, 79, 158, 33, 66, 132, 21, 42, 84, 168, 77, 154, 41, 82, 164, 85, 170, 73, 146, 57, 114, 228, 213, 183, 115, 230, 209, 191, 99, 198, 145, 63, 126, 252, 229, 215, 179, 123, 246, 241, 255, 227, 219, 171, 75, 150, 49, 98, 196, 149, 55, 110, 220, 165, 87, 174, 65, 130, 25, 50, 100, 200, 141, 7, 14, 28, 56, 112, 224, 221, 167, 83, 166, 81, 162, 89, 178, 121, 242, 249, 239, 195, 155, 43, 86, 172, 69, 138, 9, 18, 36, 72, 144, 61, 122, 244, 245, 247, 243, 251, 235, 203, 139, 11, 22, 44, 88, 176, 125, 250, 233, 207, 131, 27, 54, 108, 216, 173, 71, 142]
noncomputable def LOG : List Nat := [0, 0, 1, 25, 2, 50, 26, 198, 3, 223, 51, 238, 27, 104, 199, 75, 4, 100, 224, 14, 52, 141, 239, 129, 28, 193, 105, 248, 200, 8, 76, 113, 5, 138, 101, 47, 225, 36, 15, 33, 53, 147, 142, 218, 240, 18, 130, 69, 29, 181, 194, 125, 106, 39, 249, 185, 201, 154, 9, 120, 77, 228, 114, 166, 6, 191, 139, 98, 102, 221, 48, 253, 226, 152, 37, 179, 16, 145, 34, 136, 54, 208, 148, 206, 143, 150, 219, 189, 241, 210, 19, 92, 131, 56, 70, 64, 30, 66, 182, 163, 195, 72, 126, 110, 107, 58, 40, 84, 250, 133, 186, 61, 202, 94, 155, 159, 10, 21, 121, 43, 78, 212, 229, 172, 115, 243, 167, 87, 7, 112, 192, 247, 140, 128, 99, 13, 103, 74, 222, 237, 49, 197, 254, 24, 227, 165, 153, 119, 38, 184, 180, 124, 17, 68, 146, 217, 35, 32, 137, 46, 55, 63, 209, 91, 149, 188, 207, 205, 144, 135, 151, 178, 220, 252, 190, 97, 242, 86, 211, 171, 20, 42, 93, 158, 132, 60, 57, 83, 71, 109, 65, 162, 31, 45, 67, 216, 183, 123, 164, 118, 196, 23, 73, 236, 127, 12, 111, 246, 108, 161, 59, 82, 41, 157, 85, 170, 251, 96, 134, 177, 187, 204, 62, 90, 203, 89, 95, 176, 156, 169, 160, 81, 11, 245, 22, 235, 122, 117, 44, 215, 79, 174, 213, 233, 230, 231, 173, 232, 116, 214, 244, 234, 168, 80, 88, 175]
noncomputable def EXP : List Nat := EXP1 ++ EXP1
noncomputable def pw : Nat → Nat
  | 0 => 1
  | n + 1 => xt (pw n)
noncomputable def it : Nat → Nat → Nat
  | 0, y => y
  | n + 1, y => xt (it n y)
noncomputable def mulR : Nat → Nat → Nat → Nat
  | 0, _, _ => 0
  | k + 1, x, y => (if y % 2 = 1 then x else 0) ^^^ mulR k (xt x) (y / 2)
noncomputable def mulN (x y : Nat) : Nat := mulR 8 x y
noncomputable def lg (x : Nat) : Nat := LOG.getD x 0
theorem xt_lt : ∀ x, x < 256 → xt x < 256 := by decide +kernel
theorem xor4 (a b c d : Nat) : (a ^^^ b) ^^^ (c ^^^ d) = (a ^^^ c) ^^^ (b ^^^ d) := by
  rw [Nat.xor_assoc, Nat.xor_assoc, ← Nat.xor_assoc b, Nat.xor_comm b c, Nat.xor_assoc]
theorem xt_eq : ∀ x, x < 256 → xt x = (x <<< 1) ^^^ (285 * (x >>> 7)) := by decide +kernel
theorem hi_bit : ∀ x, x < 256 → x >>> 7 < 2 := by decide +kernel
theorem mul285 : ∀ a, a < 2 → ∀ b, b < 2 → 285 * (a ^^^ b) = (285 * a) ^^^ (285 * b) := by decide +kernel
theorem xt_xor (x : Nat) (hx : x < 256) (y : Nat) (hy : y < 256) : xt (x ^^^ y) = xt x ^^^ xt y := by
  rw [xt_eq _ (Nat.xor_lt_two_pow (n := 8) hx hy), xt_eq x hx, xt_eq y hy, Nat.shiftLeft_xor_distrib, Nat.shiftRight_xor_distrib, mul285 _ (hi_bit x hx) _ (hi_bit y hy), xor4]
theorem xt_zero : xt 0 = 0 := by decide
theorem xor_lt {x y : Nat} (hx : x < 256) (hy : y < 256) : x ^^^ y < 256 := Nat.xor_lt_two_pow (n := 8) hx hy
theorem mulR_lt : ∀ (k x y : Nat), x < 256 → mulR k x y < 256
  | 0, _, _, _ => by unfold mulR; decide
  | k + 1, x, y, hx => by
    unfold mulR
    refine xor_lt ?_ (mulR_lt k _ _ (xt_lt x hx))
    split
    · exact hx
    · decide
theorem mulR_xor : ∀ (k x x' y : Nat), x < 256 → x' < 256 → mulR k (x ^^^ x') y = mulR k x y ^^^ mulR k x' y
  | 0, _, _, _, _, _ => by simp [mulR]
  | k + 1, x, x', y, hx, hx' => by
    unfold mulR
    rw [xt_xor x hx x' hx', mulR_xor k _ _ _ (xt_lt x hx) (xt_lt x' hx'), xor4]
    congr 1
    split <;> rfl
theorem mulR_xt : ∀ (k x y : Nat), x < 256 → mulR k (xt x) y = xt (mulR k x y)
  | 0, _, _, _ => rfl
  | k + 1, x, y, hx => by
    unfold mulR
    rw [mulR_xt k _ _ (xt_lt x hx), xt_xor _ (by split; exact hx; decide) _ (mulR_lt k _ _ (xt_lt x hx))]
    congr 1
    split
    · rfl
    · rfl
theorem mulN_lt {x y : Nat} (hx : x < 256) : mulN x y < 256 := mulR_lt 8 x y hx
theorem mulN_xor {x x' y : Nat} (hx : x < 256) (hx' : x' < 256) : mulN (x ^^^ x') y = mulN x y ^^^ mulN x' y := mulR_xor 8 x x' y hx hx'
theorem mulN_xt {x y : Nat} (hx : x < 256) : mulN (xt x) y = xt (mulN x y) := mulR_xt 8 x y hx
theorem one_mulN : ∀ y, y < 256 → mulN 1 y = y := by decide +kernel
theorem zero_mulN (y : Nat) : mulN 0 y = 0 := by
  have h : ∀ k y, mulR k 0 y = 0 := by
    intro k
    induction k with
    | zero => intro y; rfl
    | succ k ih =>
      intro y
      unfold mulR
      rw [xt_zero, ih]
      split <;> rfl
  exact h 8 y
theorem pw_lt : ∀ n, pw n < 256
  | 0 => by decide
  | n + 1 => xt_lt _ (pw_lt n)
theorem it_lt {y : Nat} (hy : y < 256) : ∀ n, it n y < 256
  | 0 => hy
  | n + 1 => xt_lt _ (it_lt hy n)
theorem mulN_pw {y : Nat} (hy : y < 256) : ∀ n, mulN (pw n) y = it n y
  | 0 => one_mulN y hy
  | n + 1 => by
    show mulN (xt (pw n)) y = xt (it n y)
    rw [mulN_xt (pw_lt n), mulN_pw hy n]
theorem it_pw (m : Nat) : ∀ n, it n (pw m) = pw (n + m)
  | 0 => by rw [Nat.zero_add]; rfl
  | n + 1 => by
    show xt (it n (pw m)) = _
    rw [it_pw m n, Nat.succ_add]; rfl
theorem pw_mul (n m : Nat) : mulN (pw n) (pw m) = pw (n + m) := by rw [mulN_pw (pw_lt m), it_pw]
theorem pw_exp : ∀ n, n < 255 → EXP1[n]? = some (pw n) := by
  have h : ∀ n, n < 254 → ∀ a, EXP1[n]? = some a → EXP1[n + 1]? = some (xt a) := by
    have h' : ∀ n, n < 254 → EXP1[n + 1]? = (EXP1[n]?).map xt := by decide +kernel
    intro n hn a ha
    rw [h' n hn, ha]; rfl
  intro n
  induction n with
  | zero => intro _; rfl
  | succ n ih => intro hn; exact h n (by omega) _ (ih (by omega))
theorem pw_255 : pw 255 = 1 := by
  have h := pw_exp 254 (by decide)
  have h2 : EXP1[254]? = some 142 := by decide +kernel
  rw [h2] at h
  show xt (pw 254) = 1
  rw [← Option.some.inj h]
  decide
theorem pw_add_255 (n : Nat) : pw (n + 255) = pw n := by
  rw [← it_pw, pw_255, show (1 : Nat) = pw 0 from rfl, it_pw]; rfl
theorem pw_mod (n : Nat) : pw (n % 255) = pw n := by
  have h : ∀ q r, pw (r + 255 * q) = pw r := by
    intro q
    induction q with
    | zero => intro r; rfl
    | succ q ih =>
      intro r
      rw [Nat.mul_succ, ← Nat.add_assoc, pw_add_255, ih]
  conv => rhs; rw [← Nat.mod_add_div n 255]
  rw [h]
theorem lg_lt : ∀ x, x < 256 → lg x < 255 := by decide +kernel
theorem pw_lg : ∀ x, x < 256 → x ≠ 0 → pw (lg x) = x := by
  have h : ∀ x, x < 256 → x ≠ 0 → EXP1[lg x]? = some x := by decide +kernel
  intro x hx h0
  have := pw_exp (lg x) (lg_lt x hx)
  rw [h x hx h0] at this
  exact (Option.some.inj this).symm
theorem pw_ne (n : Nat) : pw n ≠ 0 := by
  rw [← pw_mod]
  have h : ∀ n, n < 255 → EXP1[n]? ≠ some 0 := by decide +kernel
  have hn := Nat.mod_lt n (show 255 > 0 by decide)
  intro e
  have := pw_exp (n % 255) hn
  rw [e] at this
  exact h _ hn this
theorem lg_pw (n : Nat) : lg (pw n) = n % 255 := by
  have h : ∀ n, n < 255 → (EXP1[n]?).map lg = some n := by decide +kernel
  have hn := Nat.mod_lt n (show 255 > 0 by decide)
  have := h (n % 255) hn
  rw [pw_exp _ hn, pw_mod] at this
  exact Option.some.inj this
theorem len1 : EXP1.length = 255 := by decide +kernel
theorem exp_pw (n : Nat) (hn : n < 510) : EXP[n]? = some (pw n) := by
  unfold EXP
  by_cases h : n < 255
  · rw [List.getElem?_append_left (by rw [len1]; exact h)]
    exact pw_exp n h
  · rw [List.getElem?_append_right (by rw [len1]; exact Nat.not_lt.mp h)]
    rw [len1, pw_exp (n - 255) (by omega), ← pw_add_255, Nat.sub_add_cancel (by omega)]
end G
noncomputable def GF : Type := { n : Nat // n < 256 }
namespace GF
open G
noncomputable instance : DecidableEq GF := inferInstanceAs (DecidableEq { n : Nat // n < 256 })
noncomputable def val (a : GF) : Nat := a.1
theorem ext {a b : GF} (h : a.val = b.val) : a = b := Subtype.ext h
noncomputable def mk (n : Nat) (h : n < 256) : GF := ⟨n, h⟩
noncomputable instance : Add GF := ⟨fun a b => ⟨a.1 ^^^ b.1, xor_lt a.2 b.2⟩⟩
noncomputable instance : Mul GF := ⟨fun a b => ⟨mulN a.1 b.1, mulN_lt a.2⟩⟩
noncomputable instance : Neg GF := ⟨fun a => a⟩
noncomputable instance : Sub GF := ⟨fun a b => a + b⟩
noncomputable def ofN (n : Nat) : GF := ⟨n % 2, Nat.lt_of_lt_of_le (Nat.mod_lt n (by decide)) (by decide)⟩
noncomputable instance (n : Nat) : OfNat GF n := ⟨ofN n⟩
noncomputable instance : NatCast GF := ⟨ofN⟩
noncomputable instance : IntCast GF := ⟨fun i => ofN i.natAbs⟩
noncomputable instance : SMul Nat GF := ⟨fun n a => ofN n * a⟩
noncomputable instance : SMul Int GF := ⟨fun i a => ofN i.natAbs * a⟩
noncomputable def npow (a : GF) : Nat → GF
  | 0 => 1
  | n + 1 => npow a n * a
noncomputable instance : HPow GF Nat GF := ⟨npow⟩
theorem val_add (a b : GF) : (a + b).val = a.val ^^^ b.val := rfl
theorem val_mul (a b : GF) : (a * b).val = mulN a.val b.val := rfl
theorem val_zero : (0 : GF).val = 0 := rfl
theorem val_one : (1 : GF).val = 1 := rfl
theorem val_lt (a : GF) : a.val < 256 := a.2
theorem eq_zero {a : GF} (h : a.val = 0) : a = 0 := ext h
noncomputable def al (n : Nat) : GF := ⟨pw n, pw_lt n⟩
noncomputable def log (a : GF) : Nat := lg a.val
theorem al_log {a : GF} (h : a ≠ 0) : al a.log = a := ext (pw_lg a.val a.2 fun e => h (eq_zero e))
theorem al_mul (n m : Nat) : al n * al m = al (n + m) := ext (pw_mul n m)
theorem al_zero : al 0 = 1 := rfl
theorem al_ne (n : Nat) : al n ≠ 0 := fun e => pw_ne n (congrArg val e)
theorem al_mod (n : Nat) : al (n % 255) = al n := ext (pw_mod n)
theorem val_al (n : Nat) : (al n).val = pw n := rfl
theorem al_of_one {n : Nat} (h : pw n = 1) : al n = 1 := ext (by rw [val_al, h]; rfl)
theorem al_255 : al 255 = 1 := al_of_one pw_255
theorem zero_mul' (a : GF) : 0 * a = 0 := ext (zero_mulN _)
theorem one_mul' (a : GF) : 1 * a = a := ext (one_mulN _ a.2)
theorem add_mul' (a b c : GF) : (a + b) * c = a * c + b * c := ext (mulN_xor a.2 b.2)
theorem mul_zero' (a : GF) : a * 0 = 0 := by
  by_cases h : a = 0
  · subst h; exact zero_mul' 0
  · rw [← al_log h]
    have : ∀ n, al n * 0 = 0 := fun n => ext (by
      rw [val_mul, val_zero]
      show mulN (pw n) 0 = 0
      rw [mulN_pw (by decide)]
      induction n with
      | zero => rfl
      | succ n ih => show xt (it n 0) = 0; rw [ih]; rfl)
    exact this _
theorem mul_comm' (a b : GF) : a * b = b * a := by
  by_cases ha : a = 0
  · subst ha; rw [zero_mul', mul_zero']
  by_cases hb : b = 0
  · subst hb; rw [zero_mul', mul_zero']
  rw [← al_log ha, ← al_log hb, al_mul, al_mul, Nat.add_comm]
theorem mul_assoc' (a b c : GF) : a * b * c = a * (b * c) := by
  by_cases ha : a = 0
  · subst ha; simp only [zero_mul']
  by_cases hb : b = 0
  · subst hb; simp only [zero_mul', mul_zero']
  by_cases hc : c = 0
  · subst hc; simp only [mul_zero']
  rw [← al_log ha, ← al_log hb, ← al_log hc, al_mul, al_mul, al_mul, al_mul, Nat.add_assoc]
theorem add_self (a : GF) : a + a = 0 := ext (Nat.xor_self _)
theorem add_zero' (a : GF) : a + 0 = a := ext (Nat.xor_zero _)
theorem add_comm' (a b : GF) : a + b = b + a := ext (Nat.xor_comm _ _)
theorem add_assoc' (a b c : GF) : a + b + c = a + (b + c) := ext (Nat.xor_assoc _ _ _)
theorem ofN_succ (n : Nat) : ofN (n + 1) = ofN n + 1 := by
  apply ext
  show (n + 1) % 2 = (n % 2) ^^^ 1
  rcases Nat.mod_two_eq_zero_or_one n with h | h
  · rw [Nat.add_mod, h]; rfl
  · rw [Nat.add_mod, h]; rfl
noncomputable instance : Lean.Grind.CommRing GF where
  add_zero := add_zero'
  add_comm := add_comm'
  add_assoc := add_assoc'
  mul_assoc := mul_assoc'
  mul_one a := by rw [mul_comm']; exact one_mul' a
  left_distrib a b c := by rw [mul_comm', add_mul', mul_comm' b, mul_comm' c]
  zero_mul := zero_mul'
  one_mul := one_mul'
  right_distrib := add_mul'
  mul_zero := mul_zero'
  pow_zero _ := rfl
  pow_succ _ _ := rfl
  ofNat_succ := ofN_succ
  neg_add_cancel a := add_self a
  sub_eq_add_neg _ _ := rfl
  neg_zsmul i a := by show ofN (-i).natAbs * a = ofN i.natAbs * a; rw [Int.natAbs_neg]
  intCast_neg i := by show ofN (-i).natAbs = ofN i.natAbs; rw [Int.natAbs_neg]
  mul_comm := mul_comm'
noncomputable instance : Lean.Grind.IsCharP GF 2 where
  ofNat_ext_iff := by
    intro x y
    constructor
    · intro h
      exact congrArg val h
    · intro h
      exact ext h
noncomputable def inv (a : GF) : GF := if a = 0 then 0 else al (255 - a.log)
theorem mul_inv {a : GF} (h : a ≠ 0) : a * inv a = 1 := by
  unfold inv
  rw [if_neg h]
  conv => lhs; lhs; rw [← al_log h]
  rw [al_mul]
  have := lg_lt a.val a.2
  have hl : a.log < 255 := this
  rw [Nat.add_sub_cancel' (by omega)]
  exact al_255
theorem mul_eq_zero {a b : GF} (h : a * b = 0) : a = 0 ∨ b = 0 := by
  by_cases ha : a = 0
  · exact .inl ha
  by_cases hb : b = 0
  · exact .inr hb
  rw [← al_log ha, ← al_log hb, al_mul] at h
  exact absurd h (al_ne _)
example (a b : GF) : (a + b) * (a + b) = a * a + b * b := by grind
end GF
end Mine
end
section
namespace Mine
local macro_rules | `(tactic| omega) => `(tactic| first | assumption | lia | omega +splitDisjunctions)
namespace P
open GF
noncomputable def evl : List GF → GF → GF
  | [], _ => 0
  | c :: p, x => c + x * evl p x
noncomputable def ev (p : List GF) (x : GF) : GF := p.foldl (fun y c => y * x + c) 0
theorem evl_append : ∀ (p q : List GF) (x : GF), evl (p ++ q) x = evl p x + x ^ p.length * evl q x
  | [], q, x => by simp only [List.nil_append, evl, List.length_nil]; grind
  | c :: p, q, x => by
    simp only [List.cons_append, evl, List.length_cons, evl_append p q x]
    grind
theorem ev_go (x : GF) : ∀ (p : List GF) (a : GF), p.foldl (fun y c => y * x + c) a = a * x ^ p.length + ev p x
  | [], a => by simp only [List.foldl_nil, ev, List.length_nil]; grind
  | c :: p, a => by
    have h1 := ev_go x p (a * x + c)
    have h2 := ev_go x p (0 * x + c)
    unfold ev
    simp only [List.foldl_cons, List.length_cons]
    rw [h1, h2]
    grind
theorem ev_nil (x : GF) : ev [] x = 0 := rfl
theorem ev_cons (c : GF) (p : List GF) (x : GF) : ev (c :: p) x = c * x ^ p.length + ev p x := by
  have := ev_go x p (0 * x + c)
  show List.foldl _ (0 * x + c) p = _
  rw [this]; grind
theorem ev_append : ∀ (p q : List GF) (x : GF), ev (p ++ q) x = ev p x * x ^ q.length + ev q x
  | [], q, x => by rw [List.nil_append, ev_nil]; grind
  | c :: p, q, x => by
    rw [List.cons_append, ev_cons, ev_append p q x, ev_cons, List.length_append]
    grind
theorem ev_reverse : ∀ (p : List GF) (x : GF), ev p.reverse x = evl p x
  | [], x => rfl
  | c :: p, x => by
    rw [List.reverse_cons, ev_append, ev_reverse p x]
    simp only [evl, List.length_cons, List.length_nil]
    rw [ev_cons, ev_nil]
    simp only [List.length_nil]
    grind
theorem evl_reverse (p : List GF) (x : GF) : evl p.reverse x = ev p x := by
  rw [← ev_reverse, List.reverse_reverse]
noncomputable def zer (n : Nat) : List GF := List.replicate n 0
theorem evl_zer : ∀ (n : Nat) (x : GF), evl (zer n) x = 0
  | 0, _ => rfl
  | n + 1, x => by
    show evl (0 :: zer n) x = 0
    simp only [evl, evl_zer n x]; grind
theorem evl_shift (n : Nat) (p : List GF) (x : GF) : evl (zer n ++ p) x = x ^ n * evl p x := by
  rw [evl_append, evl_zer]
  have : (zer n).length = n := by simp [zer]
  rw [this]; grind
theorem evl_pad (n : Nat) (p : List GF) (x : GF) : evl (p ++ zer n) x = evl p x := by
  rw [evl_append, evl_zer]; grind
noncomputable def scl (d : GF) (p : List GF) : List GF := p.map (· * d)
theorem evl_scl (d : GF) : ∀ (p : List GF) (x : GF), evl (scl d p) x = d * evl p x
  | [], x => by simp only [scl, List.map_nil, evl]; grind
  | c :: p, x => by
    have := evl_scl d p x
    unfold scl at this ⊢
    simp only [List.map_cons, evl, this]; grind
noncomputable def zad (p q : List GF) : List GF := List.zipWith (· + ·) p q
theorem evl_zad : ∀ (p q : List GF) (x : GF), p.length = q.length → evl (zad p q) x = evl p x + evl q x
  | [], [], x, _ => by simp only [zad, List.zipWith_nil_left, evl]; grind
  | a :: p, b :: q, x, h => by
    have := evl_zad p q x (by simpa using h)
    unfold zad at this ⊢
    simp only [List.zipWith_cons_cons, evl, this]; grind
  | [], _ :: _, _, h => by simp at h
  | _ :: _, [], _, h => by simp at h
theorem ev_scl (d : GF) (p : List GF) (x : GF) : ev (scl d p) x = d * ev p x := by
  rw [← evl_reverse, ← evl_reverse, ← evl_scl]; simp [scl]
theorem zad_reverse {p q : List GF} (h : p.length = q.length) : (zad p q).reverse = zad p.reverse q.reverse := by
  unfold zad
  rw [List.reverse_zipWith h]
theorem ev_zad {p q : List GF} (x : GF) (h : p.length = q.length) : ev (zad p q) x = ev p x + ev q x := by
  rw [← evl_reverse, zad_reverse h, evl_zad _ _ _ (by simpa using h), evl_reverse, evl_reverse]
noncomputable def padd (p q : List GF) : List GF :=
  zad (zer (max p.length q.length - p.length) ++ p) (zer (max p.length q.length - q.length) ++ q)
theorem padd_length (p q : List GF) : (padd p q).length = max p.length q.length := by
  simp only [padd, zad, List.length_zipWith, List.length_append, zer, List.length_replicate, Nat.sub_add_cancel (Nat.le_max_left p.length q.length), Nat.sub_add_cancel (Nat.le_max_right p.length q.length), Nat.min_self]
theorem evl_padd (p q : List GF) (x : GF) : evl (padd p q) x = x ^ (max p.length q.length - p.length) * evl p x + x ^ (max p.length q.length - q.length) * evl q x := by
  unfold padd
  rw [evl_zad, evl_shift, evl_shift]
  simp only [List.length_append, zer, List.length_replicate, Nat.sub_add_cancel (Nat.le_max_left p.length q.length), Nat.sub_add_cancel (Nat.le_max_right p.length q.length)]
noncomputable def quo (y : GF) : List GF → List GF
  | [] => []
  | [_] => []
  | _ :: c :: p => zad (c :: p) (scl y (quo y (c :: p)) ++ [0])
theorem quo_length (y : GF) : ∀ p : List GF, (quo y p).length = p.length - 1
  | [] => rfl
  | [_] => rfl
  | _ :: c :: p => by
    have := quo_length y (c :: p)
    simp only [quo, zad, scl, List.length_zipWith, List.length_cons, List.length_append, List.length_map, List.length_nil, this]; omega
theorem evl_quo (x y : GF) : ∀ p : List GF, evl p x + evl p y = (x + y) * evl (quo y p) x
  | [] => by simp only [evl, quo]; grind
  | [c] => by simp only [evl, quo]; grind
  | a :: c :: p => by
    have ih := evl_quo x y (c :: p)
    have hl : (c :: p).length = (scl y (quo y (c :: p)) ++ [0]).length := by
      simp only [List.length_append, scl, List.length_map, quo_length, List.length_cons, List.length_nil]; omega
    have e : evl (quo y (a :: c :: p)) x = evl (c :: p) x + y * evl (quo y (c :: p)) x := by
      show evl (zad (c :: p) (scl y (quo y (c :: p)) ++ [0])) x = _
      rw [evl_zad _ _ _ hl, show ([0] : List GF) = zer 1 from rfl, evl_pad, evl_scl]
    rw [e]
    generalize quo y (c :: p) = Qq at ih ⊢
    show a + x * evl (c :: p) x + (a + y * evl (c :: p) y) = _
    generalize evl (c :: p) x = u at ih ⊢
    generalize evl (c :: p) y = v at ih ⊢
    grind
noncomputable def lead (p : List GF) : GF := p.getLastD 0
theorem quo_lead (y : GF) : ∀ p : List GF, 2 ≤ p.length → lead (quo y p) = lead p
  | [], h => by simp at h
  | [_], h => by simp at h
  | [a, c], _ => by simp only [quo, zad, scl, List.map_nil, List.nil_append, List.zipWith_cons_cons, List.zipWith_nil_left, lead, List.getLastD_cons, List.getLastD_nil]; grind
  | a :: c :: d :: p, _ => by
    have hl : (scl y (quo y (c :: d :: p))).length = (c :: d :: p).length - 1 := by simp only [scl, List.length_map, quo_length]
    have h1 : lead (a :: c :: d :: p) = lead (c :: d :: p) := rfl
    rw [h1]
    show lead (zad (c :: d :: p) (scl y (quo y (c :: d :: p)) ++ [0])) = _
    generalize scl y (quo y (c :: d :: p)) = Qq at hl ⊢
    have : c :: d :: p = (c :: d :: p).dropLast ++ [(c :: d :: p).getLast (by simp)] := (List.dropLast_concat_getLast (by simp)).symm
    have hdl : (c :: d :: p).dropLast.length = Qq.length := by rw [hl]; simp
    rw [this]
    generalize (c :: d :: p).dropLast = u at hdl ⊢
    generalize (c :: d :: p).getLast (by simp) = z
    unfold zad
    rw [List.zipWith_append hdl]
    simp only [List.zipWith_cons_cons, List.zipWith_nil_left, lead, List.getLastD_concat]
    grind
theorem roots_le : ∀ (n : Nat) (p : List GF) (xs : List GF), p.length = n + 1 → lead p ≠ 0 → xs.Nodup → (∀ x ∈ xs, evl p x = 0) → xs.length ≤ n
  | _, p, [], _, _, _, _ => Nat.zero_le _
  | 0, p, x :: xs, hl, hp, _, hr => by
    match p, hl with
    | [c], _ =>
      have := hr x List.mem_cons_self
      simp only [evl] at this
      exact absurd (show c = 0 by grind) hp
  | n + 1, p, x :: xs, hl, hp, hn, hr => by
    have hx := hr x List.mem_cons_self
    have hn' := List.nodup_cons.mp hn
    have := roots_le n (quo x p) xs (by rw [quo_length, hl]; rfl) (by rw [quo_lead x p (by omega)]; exact hp) hn'.2 (fun y hy => by
      have e := evl_quo y x p
      rw [hx, hr y (List.mem_cons_of_mem _ hy)] at e
      have hyx : y + x ≠ 0 := by
        intro h
        have : y = x := by grind
        subst this
        exact hn'.1 hy
      rcases mul_eq_zero (show (y + x) * evl (quo x p) y = 0 by grind) with h | h
      · exact absurd h hyx
      · exact h)
    simpa using this
end P
end Mine
end
section
namespace Mine
local macro_rules | `(tactic| omega) => `(tactic| first | assumption | lia | omega +splitDisjunctions)
namespace P
open GF
noncomputable def lin (X : GF) (p : List GF) : List GF := zad (0 :: p) (scl X p ++ [0])
theorem lin_length (X : GF) (p : List GF) : (lin X p).length = p.length + 1 := by
  simp [lin, zad, scl]
theorem evl_lin (X : GF) (p : List GF) (x : GF) : evl (lin X p) x = (x + X) * evl p x := by
  unfold lin
  rw [evl_zad _ _ _ (by simp [scl]), show ([0] : List GF) = zer 1 from rfl, evl_pad, evl_scl]
  simp only [evl]; grind
theorem lead_concat (p : List GF) (c : GF) : lead (p ++ [c]) = c := by simp [lead]
theorem split_last {p : List GF} (h : p ≠ []) : ∃ u, p = u ++ [lead p] := by
  refine ⟨p.dropLast, ?_⟩
  have := List.dropLast_concat_getLast h
  rw [lead, List.getLastD_eq_getLast?, List.getLast?_eq_some_getLast h]
  exact this.symm
theorem zad_concat {p q : List GF} (h : p.length = q.length) (a b : GF) : zad (p ++ [a]) (q ++ [b]) = zad p q ++ [a + b] := by
  unfold zad
  rw [List.zipWith_append h]; rfl
theorem lead_lin (X : GF) {p : List GF} (h : p ≠ []) : lead (lin X p) = lead p := by
  obtain ⟨u, e⟩ := split_last h
  generalize lead p = c at e ⊢
  subst e
  unfold lin
  rw [← List.cons_append, zad_concat (by simp [scl]), lead_concat]
  grind
noncomputable def lam : List GF → List GF
  | [] => [1]
  | X :: xs => lin X (lam xs)
theorem lam_length : ∀ xs : List GF, (lam xs).length = xs.length + 1
  | [] => rfl
  | X :: xs => by simp only [lam, lin_length, lam_length xs, List.length_cons]
theorem lam_ne (xs : List GF) : lam xs ≠ [] := by
  intro h
  have := lam_length xs
  rw [h] at this; simp at this
theorem lead_lam : ∀ xs : List GF, lead (lam xs) = 1
  | [] => rfl
  | X :: xs => by rw [lam, lead_lin X (lam_ne xs), lead_lam xs]
theorem evl_lam_zero : ∀ {xs : List GF} {x : GF}, x ∈ xs → evl (lam xs) x = 0
  | X :: xs, x, h => by
    rw [lam, evl_lin]
    rcases List.mem_cons.mp h with rfl | h
    · grind
    · rw [evl_lam_zero h]; grind
theorem evl_lam_ne : ∀ {xs : List GF} {x : GF}, x ∉ xs → evl (lam xs) x ≠ 0
  | [], x, _ => by
    simp only [lam, evl]
    intro h
    exact absurd (show (1 : GF) = 0 by grind) (by decide)
  | X :: xs, x, h => by
    rw [lam, evl_lin]
    intro e
    rcases mul_eq_zero e with e | e
    · exact h (List.mem_cons.mpr (.inl (by grind)))
    · exact evl_lam_ne (fun hm => h (List.mem_cons_of_mem _ hm)) e
noncomputable def lf : List (GF × GF) → Nat → List GF → GF
  | [], _, _ => 0
  | k :: ks, i, p => k.1 * k.2 ^ i * evl p k.2 + lf ks i p
theorem lf_of_evl {p q : List GF} {i j : Nat} : ∀ {ks : List (GF × GF)}, (∀ k ∈ ks, k.2 ^ i * evl p k.2 = k.2 ^ j * evl q k.2) → lf ks i p = lf ks j q
  | [], _ => rfl
  | k :: ks, h => by
    simp only [lf]
    rw [lf_of_evl (fun k' hk' => h k' (List.mem_cons_of_mem _ hk'))]
    have := h k List.mem_cons_self
    grind
theorem pow_add (x : GF) (m : Nat) : ∀ n, x ^ (m + n) = x ^ m * x ^ n
  | 0 => by grind
  | n + 1 => by
    have := pow_add x m n
    rw [← Nat.add_assoc]
    have e1 : x ^ (m + n + 1) = x ^ (m + n) * x := Lean.Grind.Semiring.pow_succ _ _
    have e2 : x ^ (n + 1) = x ^ n * x := Lean.Grind.Semiring.pow_succ _ _
    rw [e1, e2, this]; grind
theorem lf_shift (ks : List (GF × GF)) (i n : Nat) (p : List GF) : lf ks i (zer n ++ p) = lf ks (i + n) p :=
  lf_of_evl fun k _ => by rw [evl_shift, pow_add]; grind
theorem lf_pad (ks : List (GF × GF)) (i n : Nat) (p : List GF) : lf ks i (p ++ zer n) = lf ks i p :=
  lf_of_evl fun k _ => by rw [evl_pad]
theorem lf_scl (d : GF) (i : Nat) (p : List GF) : ∀ ks : List (GF × GF), lf ks i (scl d p) = d * lf ks i p
  | [] => by simp only [lf]; grind
  | k :: ks => by simp only [lf, lf_scl d i p ks, evl_scl]; grind
theorem lf_padd (i : Nat) (p q : List GF) : ∀ ks : List (GF × GF), lf ks i (padd p q) = lf ks (i + (max p.length q.length - p.length)) p + lf ks (i + (max p.length q.length - q.length)) q
  | [] => by simp only [lf]; grind
  | k :: ks => by
    simp only [lf, lf_padd i p q ks, evl_padd, pow_add]; grind
theorem lf_cons (c : GF) (p : List GF) (i : Nat) : ∀ ks : List (GF × GF), lf ks i (c :: p) = c * lf ks i [1] + lf ks (i + 1) p
  | [] => by simp only [lf]; grind
  | k :: ks => by
    simp only [lf, lf_cons c p i ks, evl, pow_add]
    have e : k.2 ^ (1 : Nat) = k.2 := by grind
    rw [e]; grind
theorem lf_concat (c : GF) (i : Nat) : ∀ (p : List GF) (ks : List (GF × GF)), lf ks i (p ++ [c]) = lf ks i p + c * lf ks (i + p.length) [1]
  | p, [] => by simp only [lf]; grind
  | p, k :: ks => by
    have e1 : evl [c] k.2 = c := by simp only [evl]; grind
    have e2 : evl [(1 : GF)] k.2 = 1 := by simp only [evl]; grind
    simp only [lf, lf_concat c i p ks, evl_append, pow_add, e1, e2]; grind
theorem lf_zero {ks : List (GF × GF)} {n : Nat} (h : ∀ i, i < n → lf ks i [1] = 0) : ∀ (p : List GF) (i : Nat), i + p.length ≤ n → lf ks i p = 0
  | [], i, _ => by
    have : ∀ ks : List (GF × GF), lf ks i [] = 0 := fun ks => by
      induction ks with
      | nil => rfl
      | cons k ks ih => simp only [lf, ih, evl]; grind
    exact this ks
  | c :: p, i, hp => by
    simp only [List.length_cons] at hp
    rw [lf_cons, h i (by omega), lf_zero h p (i + 1) (by omega)]; grind
theorem lf_all_zero {p : List GF} {i : Nat} : ∀ {ks : List (GF × GF)}, (∀ k ∈ ks, k.1 * evl p k.2 = 0) → lf ks i p = 0
  | [], _ => rfl
  | k :: ks, h => by
    simp only [lf]
    rw [lf_all_zero (fun k' hk' => h k' (List.mem_cons_of_mem _ hk'))]
    have := h k List.mem_cons_self
    grind
theorem lf_append (p : List GF) (i : Nat) : ∀ (l m : List (GF × GF)), lf (l ++ m) i p = lf l i p + lf m i p
  | [], m => by simp only [List.nil_append, lf]; grind
  | k :: l, m => by simp only [List.cons_append, lf, lf_append p i l m]; grind
noncomputable def xsOf (ks : List (GF × GF)) : List GF := ks.map (·.2)
theorem vander {ks : List (GF × GF)} (hn : (xsOf ks).Nodup) (h : ∀ i, i < ks.length → lf ks i [1] = 0) : ∀ k ∈ ks, k.1 = 0 := by
  intro k hk
  obtain ⟨l, m, rfl⟩ := List.append_of_mem hk
  have hx : k.2 ∉ xsOf (l ++ m) := by
    unfold xsOf at hn ⊢
    simp only [List.map_append, List.map_cons, List.nodup_append, List.nodup_cons] at hn
    simp only [List.map_append, List.mem_append, not_or]
    refine ⟨fun hl => hn.2.2 _ hl k.2 List.mem_cons_self rfl, hn.2.1.1⟩
  have e := lf_zero h (lam (xsOf (l ++ m))) 0 (by rw [lam_length]; simp [xsOf]; omega)
  have el : lf l 0 (lam (xsOf (l ++ m))) = 0 := lf_all_zero fun k' hk' => by rw [evl_lam_zero (show k'.2 ∈ xsOf (l ++ m) from List.mem_map.mpr ⟨k', List.mem_append_left _ hk', rfl⟩)]; grind
  have em : lf m 0 (lam (xsOf (l ++ m))) = 0 := lf_all_zero fun k' hk' => by rw [evl_lam_zero (show k'.2 ∈ xsOf (l ++ m) from List.mem_map.mpr ⟨k', List.mem_append_right _ hk', rfl⟩)]; grind
  rw [lf_append, el] at e
  simp only [lf] at e
  rw [em] at e
  have hne := evl_lam_ne hx
  rcases mul_eq_zero (show k.1 * evl (lam (xsOf (l ++ m))) k.2 = 0 by grind) with h | h
  · exact h
  · exact absurd h hne
noncomputable def wt (C : List GF) (ks : List (GF × GF)) : List (GF × GF) := ks.map fun k => (k.1 * evl C k.2, k.2)
theorem lf_wt (C p : List GF) (i : Nat) : ∀ ks : List (GF × GF), lf (wt C ks) i p = lf ks i p → True := fun _ _ => trivial
theorem lf_wt_one (C : List GF) (i : Nat) : ∀ ks : List (GF × GF), lf (wt C ks) i [1] = lf ks i C
  | [] => rfl
  | k :: ks => by
    have := lf_wt_one C i ks
    unfold wt at this ⊢
    simp only [List.map_cons, lf, this, evl]; grind
theorem xs_wt (C : List GF) (ks : List (GF × GF)) : xsOf (wt C ks) = xsOf ks := by simp [xsOf, wt]
theorem zeros_go {ks : List (GF × GF)} {C : List GF} {d : Nat} (hd : ks.length ≤ d) (h : ∀ i, i < d → lf ks i C = 0) : lf ks d C = 0 := by
  rw [← lf_wt_one]
  have h' : ∀ i, i < d → lf (wt C ks) i [1] = 0 := fun i hi => by rw [lf_wt_one]; exact h i hi
  obtain ⟨u, e⟩ := split_last (lam_ne (xsOf ks))
  rw [lead_lam] at e
  have hu : u.length = ks.length := by
    have := lam_length (xsOf ks)
    rw [e] at this
    simpa [xsOf] using this
  have z : lf (wt C ks) (d - ks.length) (lam (xsOf ks)) = 0 := lf_all_zero fun k hk => by
    have : k.2 ∈ xsOf ks := by rw [← xs_wt C]; exact List.mem_map.mpr ⟨k, hk, rfl⟩
    rw [evl_lam_zero this]; grind
  rw [e, lf_concat, lf_zero h' u _ (by omega), hu, Nat.sub_add_cancel hd] at z
  grind
theorem vander_C {ks : List (GF × GF)} {C : List GF} (hn : (xsOf ks).Nodup) (ha : ∀ k ∈ ks, k.1 ≠ 0) (h : ∀ i, i < ks.length → lf ks i C = 0) : ∀ k ∈ ks, evl C k.2 = 0 := by
  intro k hk
  have := vander (ks := wt C ks) (by rw [xs_wt]; exact hn) (fun i hi => by rw [lf_wt_one]; exact h i (by simpa [wt] using hi)) (k.1 * evl C k.2, k.2) (List.mem_map.mpr ⟨k, hk, rfl⟩)
  rcases mul_eq_zero this with e | e
  · exact absurd e (ha k hk)
  · exact e
end P
end Mine
end
section
namespace Mine
local macro_rules | `(tactic| omega) => `(tactic| first | assumption | lia | omega +splitDisjunctions)
namespace P
open GF
noncomputable def sl (s : Nat → GF) : Nat → List GF → GF
  | _, [] => 0
  | d, c :: p => c * s d + sl s (d + 1) p
noncomputable def bmDelta (s : Nat → GF) (K : Nat) (err : List GF) : GF := sl s (K + 1 - err.length) err
noncomputable def bmStep (s : Nat → GF) (K : Nat) (x : List GF × List GF) : List GF × List GF :=
  let d := bmDelta s K x.1
  let old := x.2 ++ [0]
  if d = 0 then (x.1, old)
  else if x.1.length < old.length then (padd (scl d old) (scl d (scl (inv d) x.1)), scl (inv d) x.1)
  else (padd x.1 (scl d old), old)
noncomputable def bm (s : Nat → GF) : Nat → List GF × List GF
  | 0 => ([1], [1])
  | K + 1 => bmStep s K (bm s K)
theorem sl_lf {ks : List (GF × GF)} {s : Nat → GF} {N : Nat} (hs : ∀ n, n < N → s n = lf ks n [1]) : ∀ (p : List GF) (d : Nat), d + p.length ≤ N → sl s d p = lf ks d p
  | [], d, _ => by
    show 0 = lf ks d []
    induction ks with
    | nil => rfl
    | cons k ks ih => simp only [lf, evl]; have := lf_all_zero (p := []) (i := d) (ks := ks) (fun k _ => by simp only [evl]; grind); rw [this]; grind
  | c :: p, d, h => by
    simp only [List.length_cons] at h
    rw [sl, sl_lf hs p (d + 1) (by omega), lf_cons, hs d (by omega)]
structure BmInv (ks : List (GF × GF)) (K L : Nat) (err old : List GF) : Prop where
  el : err.length = L + 1
  le : L ≤ K
  ol : old.length = K - L + 1
  mon : lead err = 1
  zero : ∀ i, i < K - L → lf ks i err = 0
  small : L ≤ ks.length
  old0 : L ≠ 0 → (∀ i, i < L - 1 → lf ks i old = 0) ∧ lf ks (L - 1) old = 1
theorem bm_init (ks : List (GF × GF)) : BmInv ks 0 0 [1] [1] :=
  ⟨rfl, Nat.le_refl _, rfl, rfl, fun i hi => by omega, Nat.zero_le _, fun h => absurd rfl h⟩
theorem lead_scl (d : GF) (p : List GF) : lead (scl d p) = lead p * d := by
  by_cases h : p = []
  · subst h; show (0 : GF) = 0 * d; grind
  · obtain ⟨u, e⟩ := split_last h
    generalize lead p = c at e ⊢
    subst e
    simp [scl, lead]
theorem lead_padd_eq {p q : List GF} (hp : p ≠ []) (hq : q ≠ []) : lead (padd p q) = lead p + lead q := by
  obtain ⟨u, e⟩ := split_last hp
  obtain ⟨v, e'⟩ := split_last hq
  generalize lead p = c at e ⊢
  generalize lead q = c' at e' ⊢
  subst e e'
  unfold padd
  rw [← List.append_assoc, ← List.append_assoc, zad_concat (by simp [zer]; omega), lead_concat]
theorem bm_inv {ks : List (GF × GF)} {s : Nat → GF} {N : Nat} (hs : ∀ n, n < N → s n = lf ks n [1]) {K L : Nat} {err old : List GF} (hK : K < N) (I : BmInv ks K L err old) :
    ∃ L', BmInv ks (K + 1) L' (bmStep s K (err, old)).1 (bmStep s K (err, old)).2 := by
  obtain ⟨M, rfl⟩ := Nat.exists_eq_add_of_le I.le
  have eM : L + M - L = M := Nat.add_sub_cancel_left _ _
  have eM1 : L + M + 1 - L = M + 1 := by rw [Nat.add_assoc, Nat.add_sub_cancel_left]
  have hz : ∀ i, i < M → lf ks i err = 0 := fun i hi => I.zero i (eM.symm ▸ hi)
  have hd : bmDelta s (L + M) err = lf ks M err := by
    unfold bmDelta
    rw [I.el, sl_lf hs err _ (by rw [I.el]; omega)]
    congr 1; omega
  have hol : (old ++ [(0 : GF)]).length = M + 2 := by rw [List.length_append, I.ol, eM]; rfl
  have hpad : ∀ i, lf ks i (old ++ [0]) = lf ks i old := fun i => lf_pad ks i 1 old
  have hene : err ≠ [] := fun h => by have := I.el; rw [h] at this; exact absurd this.symm (Nat.succ_ne_zero L)
  have hone : old ++ [(0 : GF)] ≠ [] := List.append_ne_nil_of_right_ne_nil _ (List.cons_ne_nil _ _)
  have lold : lead (old ++ [(0 : GF)]) = 0 := lead_concat _ _
  have scl_ne : ∀ (d : GF) {p : List GF}, p ≠ [] → scl d p ≠ [] := fun d p h e => h (List.map_eq_nil_iff.mp e)
  unfold bmStep
  simp only
  by_cases h0 : bmDelta s (L + M) err = 0
  · rw [if_pos h0]
    refine ⟨L, I.el, Nat.le_add_right_of_le (Nat.le_add_right L M), hol.trans (by rw [eM1]), I.mon, fun i hi => ?_, I.small, fun h => ?_⟩
    · rw [eM1] at hi
      rcases Nat.lt_or_ge i M with h | h
      · exact hz i h
      · obtain rfl : i = M := Nat.le_antisymm (Nat.le_of_lt_succ hi) h
        rw [← hd]; exact h0
    · obtain ⟨a, b⟩ := I.old0 h
      exact ⟨fun i hi => by rw [hpad]; exact a i hi, by rw [hpad]; exact b⟩
  · rw [if_neg h0]
    have hv : M < ks.length := by
      rcases Nat.lt_or_ge M ks.length with h | h
      · exact h
      · exact absurd (hd.trans (zeros_go h hz)) h0
    have hinv : bmDelta s (L + M) err * inv (bmDelta s (L + M) err) = 1 := mul_inv h0
    generalize bmDelta s (L + M) err = d at hd h0 hinv
    generalize inv d = e at hinv
    have hlen1 : (scl d (old ++ [0])).length = M + 2 := by rw [scl, List.length_map]; exact hol
    split
    · rename_i hlt
      rw [I.el, hol] at hlt
      have hlt' : L ≤ M := Nat.le_of_lt_succ (Nat.lt_of_succ_lt_succ hlt)
      have hlen2 : (scl d (scl e err)).length = L + 1 := by rw [scl, List.length_map, scl, List.length_map]; exact I.el
      have eL : L + M + 1 - (M + 1) = L := by rw [Nat.add_assoc, Nat.add_sub_cancel]
      have emax : max (M + 2) (L + 1) = M + 2 := Nat.max_eq_left (Nat.le_of_lt hlt)
      have lpos : ∀ i, i < L → L ≠ 0 := fun i h => Nat.ne_of_gt (Nat.zero_lt_of_lt h)
      refine ⟨M + 1, ?_, by rw [Nat.add_assoc]; exact Nat.le_add_left _ _, ?_, ?_, fun i hi => ?_, hv, fun _ => ⟨fun i hi => ?_, ?_⟩⟩
      · show (padd (scl d (old ++ [0])) (scl d (scl e err))).length = _
        rw [padd_length, hlen1, hlen2, emax]
      · show (scl e err).length = _
        rw [scl, List.length_map, I.el, eL]
      · show lead (padd (scl d (old ++ [0])) (scl d (scl e err))) = 1
        rw [lead_padd_eq (scl_ne _ hone) (scl_ne _ (scl_ne _ hene)), lead_scl, lead_scl, lead_scl, lold, I.mon]; grind
      · show lf ks i (padd (scl d (old ++ [0])) (scl d (scl e err))) = 0
        rw [eL] at hi
        rw [lf_padd, hlen1, hlen2, emax, Nat.sub_self, Nat.add_zero, lf_scl, lf_scl, lf_scl, hpad, Nat.succ_sub_succ]
        obtain ⟨a, b⟩ := I.old0 (lpos i hi)
        rcases Nat.lt_or_ge i (L - 1) with h | h
        · rw [a i h, hz _ (by omega)]; grind
        · obtain rfl : i = L - 1 := by omega
          rw [b, show L - 1 + (M + 1 - L) = M by omega, ← hd]; grind
      · show lf ks i (scl e err) = 0
        rw [lf_scl, hz i hi]; grind
      · show lf ks M (scl e err) = 1
        rw [lf_scl, ← hd]; grind
    · rename_i hlt
      rw [I.el, hol] at hlt
      have hlt' : M + 1 ≤ L := by omega
      have emax : max (L + 1) (M + 2) = L + 1 := Nat.max_eq_left (Nat.succ_le_succ hlt')
      have eb := I.old0 (Nat.ne_of_gt (Nat.lt_of_lt_of_le (Nat.succ_pos M) hlt'))
      refine ⟨L, ?_, Nat.le_add_right_of_le (Nat.le_add_right L M), hol.trans (by rw [eM1]), ?_, fun i hi => ?_, I.small, fun h => ?_⟩
      · show (padd err (scl d (old ++ [0]))).length = _
        rw [padd_length, hlen1, I.el, emax]
      · show lead (padd err (scl d (old ++ [0]))) = 1
        rw [lead_padd_eq hene (scl_ne _ hone), lead_scl, lold, I.mon]; grind
      · show lf ks i (padd err (scl d (old ++ [0]))) = 0
        rw [eM1] at hi
        rw [lf_padd, hlen1, I.el, emax, Nat.sub_self, Nat.add_zero, lf_scl, hpad, Nat.succ_sub_succ]
        rcases Nat.lt_or_ge i M with h | h
        · rw [hz i h, eb.1 _ (by omega)]; grind
        · obtain rfl : i = M := Nat.le_antisymm (Nat.le_of_lt_succ hi) h
          rw [show i + (L - (i + 1)) = L - 1 by omega, eb.2, ← hd]; grind
      · exact ⟨fun i hi => by rw [hpad]; exact eb.1 i hi, by rw [hpad]; exact eb.2⟩
theorem bm_all {ks : List (GF × GF)} {s : Nat → GF} {N : Nat} (hs : ∀ n, n < N → s n = lf ks n [1]) : ∀ K, K ≤ N → ∃ L, BmInv ks K L (bm s K).1 (bm s K).2
  | 0, _ => ⟨0, bm_init ks⟩
  | K + 1, h => by
    obtain ⟨L, I⟩ := bm_all hs K (by omega)
    exact bm_inv hs (by omega) I
theorem bm_end {ks : List (GF × GF)} {s : Nat → GF} {N : Nat} (hs : ∀ n, n < N → s n = lf ks n [1]) (hn : (xsOf ks).Nodup) (ha : ∀ k ∈ ks, k.1 ≠ 0) (h0 : ∀ k ∈ ks, k.2 ≠ 0) (hN : 2 * ks.length ≤ N) :
    (bm s N).1.length = ks.length + 1 ∧ (∀ x, evl (bm s N).1 x = 0 ↔ x ∈ xsOf ks) ∧ (bm s N).1.head? ≠ some 0 := by
  obtain ⟨L, I⟩ := bm_all hs N (Nat.le_refl _)
  have hroot := vander_C hn ha (C := (bm s N).1) fun i hi => I.zero i (by have := I.small; omega)
  have hr : ∀ x ∈ xsOf ks, evl (bm s N).1 x = 0 := fun x hx => by
    obtain ⟨k, hk, rfl⟩ := List.mem_map.mp hx
    exact hroot k hk
  have one_ne : (1 : GF) ≠ 0 := by decide
  have hL : L = ks.length := by
    have := roots_le L _ (xsOf ks) I.el (by rw [I.mon]; exact one_ne) hn hr
    have := I.small
    simp only [xsOf, List.length_map] at *
    omega
  subst hL
  have more : ∀ x, evl (bm s N).1 x = 0 → x ∈ xsOf ks := fun x hx => by
    by_cases hm : x ∈ xsOf ks
    · exact hm
    · have := roots_le _ _ (x :: xsOf ks) I.el (by rw [I.mon]; exact one_ne) (List.nodup_cons.mpr ⟨hm, hn⟩) (fun y hy => by
        rcases List.mem_cons.mp hy with rfl | hy
        · exact hx
        · exact hr y hy)
      simp only [xsOf, List.length_cons, List.length_map] at this
      omega
  refine ⟨I.el, fun x => ⟨more x, hr x⟩, fun h => ?_⟩
  have : evl (bm s N).1 0 = 0 := by
    induction e : (bm s N).1 with
    | nil => rfl
    | cons c p =>
      rw [e] at h
      simp only [List.head?_cons, Option.some.injEq] at h
      subst h
      simp only [evl]; grind
  obtain ⟨k, hk, e⟩ := List.mem_map.mp (more 0 this)
  exact h0 k hk e
end P
end Mine
end
section
namespace Mine
local macro_rules | `(tactic| omega) => `(tactic| first | assumption | lia | omega +splitDisjunctions)
namespace P
open GF
noncomputable def sumN : Nat → (Nat → GF) → GF
  | 0, _ => 0
  | n + 1, f => sumN n f + f n
theorem sumN_congr {f g : Nat → GF} : ∀ {n : Nat}, (∀ i, i < n → f i = g i) → sumN n f = sumN n g
  | 0, _ => rfl
  | n + 1, h => by
    simp only [sumN]
    rw [sumN_congr (fun i hi => h i (by omega)), h n (by omega)]
theorem sumN_add (f g : Nat → GF) : ∀ n, sumN n (fun i => f i + g i) = sumN n f + sumN n g
  | 0 => by simp only [sumN]; grind
  | n + 1 => by simp only [sumN, sumN_add f g n]; grind
theorem sumN_mul (c : GF) (f : Nat → GF) : ∀ n, sumN n (fun i => c * f i) = c * sumN n f
  | 0 => by simp only [sumN]; grind
  | n + 1 => by simp only [sumN, sumN_mul c f n]; grind
theorem sumN_zero {f : Nat → GF} : ∀ {n : Nat}, (∀ i, i < n → f i = 0) → sumN n f = 0
  | 0, _ => rfl
  | n + 1, h => by
    simp only [sumN]
    rw [sumN_zero (fun i hi => h i (by omega)), h n (by omega)]; grind
theorem sumN_head (f : Nat → GF) : ∀ n, sumN (n + 1) f = f 0 + sumN n (fun i => f (i + 1))
  | 0 => by simp only [sumN]; grind
  | n + 1 => by
    have := sumN_head f n
    rw [sumN, this]
    simp only [sumN]; grind
theorem sumN_rev (f : Nat → GF) : ∀ n, sumN n f = sumN n (fun i => f (n - 1 - i))
  | 0 => rfl
  | n + 1 => by
    rw [sumN_head (fun i => f (n + 1 - 1 - i)), sumN, sumN_rev f n]
    have : sumN n (fun i => f (n - 1 - i)) = sumN n (fun i => f (n + 1 - 1 - (i + 1))) := sumN_congr fun i hi => by congr 1; omega
    rw [this]
    simp only [Nat.add_sub_cancel, Nat.sub_zero]; grind
theorem sumN_split (f : Nat → GF) (n : Nat) : ∀ m, sumN (n + m) f = sumN n f + sumN m (fun i => f (n + i))
  | 0 => by simp only [sumN, Nat.add_zero]; grind
  | m + 1 => by rw [← Nat.add_assoc, sumN, sumN_split f n m, sumN]; grind
theorem evl_map (f : Nat → GF) (x : GF) : ∀ N, evl ((List.range N).map f) x = sumN N (fun n => f n * x ^ n)
  | 0 => rfl
  | N + 1 => by
    rw [List.range_succ, List.map_append, evl_append, evl_map f x N]
    simp only [List.map_cons, List.map_nil, evl, List.length_map, List.length_range, sumN]; grind
theorem evl_getD (x : GF) : ∀ (p : List GF) (N : Nat), p.length ≤ N → sumN N (fun n => p.getD n 0 * x ^ n) = evl p x
  | [], N, _ => by
    rw [sumN_zero fun i _ => by simp only [List.getD_nil]; grind]; rfl
  | c :: p, 0, h => by simp at h
  | c :: p, N + 1, h => by
    rw [sumN_head]
    simp only [List.getD_cons_zero, List.getD_cons_succ, evl]
    rw [← evl_getD x p N (by simpa using h), ← sumN_mul]
    have e : sumN N (fun i => p.getD i 0 * x ^ (i + 1)) = sumN N (fun i => x * (p.getD i 0 * x ^ i)) := sumN_congr fun i _ => by
      have e2 : x ^ (i + 1) = x ^ i * x := Lean.Grind.Semiring.pow_succ _ _
      rw [e2]; grind
    rw [e]; grind
noncomputable def cv (f : Nat → GF) (q : List GF) (n : Nat) : GF := sumN q.length fun j => q.getD j 0 * (if j ≤ n then f (n - j) else 0)
noncomputable def cs (p q : List GF) (n : Nat) : GF := cv (fun i => p.getD i 0) q n
noncomputable def pm (p q : List GF) : List GF := (List.range (p.length + q.length - 1)).map (cs p q)
theorem pm_length (p q : List GF) : (pm p q).length = p.length + q.length - 1 := by simp [pm]
theorem cv_cons_zero (f : Nat → GF) (c : GF) (q : List GF) : cv f (c :: q) 0 = c * f 0 := by
  unfold cv
  rw [List.length_cons, sumN_head]
  simp only [List.getD_cons_zero, Nat.le_refl, if_true, Nat.sub_self]
  rw [sumN_zero fun i _ => by rw [if_neg (by omega)]; grind]; grind
theorem cv_cons_succ (f : Nat → GF) (c : GF) (q : List GF) (n : Nat) : cv f (c :: q) (n + 1) = c * f (n + 1) + cv f q n := by
  unfold cv
  rw [List.length_cons, sumN_head]
  simp only [List.getD_cons_zero, Nat.zero_le, if_true, Nat.sub_zero, List.getD_cons_succ]
  congr 1
  refine sumN_congr fun i _ => ?_
  by_cases h : i ≤ n
  · rw [if_pos h, if_pos (by omega), Nat.add_sub_add_right]
  · rw [if_neg h, if_neg (by omega)]
theorem evs (p : List GF) (x : GF) (hp : 1 ≤ p.length) : ∀ (q : List GF) (N : Nat), p.length + q.length - 1 ≤ N → sumN N (fun n => cs p q n * x ^ n) = evl p x * evl q x
  | [], N, _ => by
    rw [sumN_zero fun i _ => by simp only [cs, cv, List.length_nil, sumN]; grind]
    simp only [evl]; grind
  | c :: q, 0, h => by simp only [List.length_cons] at h; omega
  | c :: q, N + 1, h => by
    simp only [List.length_cons] at h
    rw [sumN_head]
    have e0 : cs p (c :: q) 0 = c * p.getD 0 0 := cv_cons_zero _ _ _
    have e1 : ∀ n, cs p (c :: q) (n + 1) = c * p.getD (n + 1) 0 + cs p q n := fun n => cv_cons_succ _ _ _ _
    simp only [e0, e1]
    have h1 : sumN N (fun i => (c * p.getD (i + 1) 0 + cs p q i) * x ^ (i + 1)) = sumN N (fun i => c * (p.getD (i + 1) 0 * x ^ (i + 1))) + sumN N (fun i => x * (cs p q i * x ^ i)) := by
      rw [← sumN_add]
      refine sumN_congr fun i _ => ?_
      have e2 : x ^ (i + 1) = x ^ i * x := Lean.Grind.Semiring.pow_succ _ _
      rw [e2]; grind
    rw [h1, sumN_mul, sumN_mul, evs p x hp q N (by omega)]
    have h2 := evl_getD x p (N + 1) (by omega)
    rw [sumN_head] at h2
    rw [evl, ← h2]; grind
theorem evl_pm {p q : List GF} (x : GF) (hp : 1 ≤ p.length) : evl (pm p q) x = evl p x * evl q x := by
  unfold pm
  rw [evl_map, evs p x hp q _ (Nat.le_refl _)]
theorem getD_rev {p : List GF} {k : Nat} (h : k < p.length) : p.reverse.getD k 0 = p.getD (p.length - 1 - k) 0 := by
  rw [List.getD_eq_getElem?_getD, List.getD_eq_getElem?_getD, List.getElem?_reverse h]
theorem getD_big {p : List GF} {k : Nat} (h : p.length ≤ k) : p.getD k 0 = 0 := by
  rw [List.getD_eq_getElem?_getD, List.getElem?_eq_none h]; rfl
theorem cs_rev {p q : List GF} (hp : 1 ≤ p.length) (hq : 1 ≤ q.length) {k : Nat} (hk : k < p.length + q.length - 1) : cs p.reverse q.reverse k = cs p q (p.length + q.length - 2 - k) := by
  obtain ⟨a, ha⟩ : ∃ a, p.length = a + 1 := ⟨_, (Nat.sub_add_cancel hp).symm⟩
  obtain ⟨b, hb⟩ : ∃ b, q.length = b + 1 := ⟨_, (Nat.sub_add_cancel hq).symm⟩
  have hs : p.length + q.length = a + b + 2 := by omega
  rw [hs] at hk ⊢
  obtain ⟨r, hr⟩ := Nat.exists_eq_add_of_le (Nat.le_of_lt_succ hk)
  rw [show a + b + 2 - 2 - k = r from Nat.sub_eq_of_eq_add (hr.trans (Nat.add_comm k r))]
  clear hk hs
  unfold cs cv
  rw [sumN_rev, List.length_reverse]
  refine sumN_congr fun i hi => ?_
  rw [hb] at hi
  obtain ⟨m, rfl⟩ := Nat.exists_eq_add_of_le (Nat.le_of_lt_succ hi)
  rw [show q.length - 1 - i = m by omega, getD_rev (by omega), show q.length - 1 - m = i by omega]
  congr 1
  dsimp only
  by_cases h1 : m ≤ k
  · obtain ⟨t, rfl⟩ := Nat.exists_eq_add_of_le h1
    rw [if_pos h1, Nat.add_sub_cancel_left]
    by_cases h2 : t < p.length
    · obtain ⟨u, rfl⟩ := Nat.exists_eq_add_of_le (Nat.le_of_lt_succ (ha ▸ h2))
      obtain rfl : r = i + u := by omega
      rw [getD_rev h2, if_pos (Nat.le_add_right _ _), Nat.add_sub_cancel_left, ha, Nat.add_sub_cancel, Nat.add_sub_cancel_left]
    · rw [getD_big (by rw [List.length_reverse]; omega), if_neg (by omega)]
  · rw [if_neg h1]
    by_cases h2 : i ≤ r
    · rw [if_pos h2, getD_big (by omega)]
    · rw [if_neg h2]
theorem pm_reverse {p q : List GF} (hp : 1 ≤ p.length) (hq : 1 ≤ q.length) : (pm p q).reverse = pm p.reverse q.reverse := by
  apply List.ext_getElem
  · simp [pm_length]
  · intro i h1 h2
    rw [List.length_reverse, pm_length] at h1
    have e : (pm p q).reverse[i]? = (pm p.reverse q.reverse)[i]? := by
      rw [List.getElem?_reverse (by rw [pm_length]; exact h1), pm_length]
      unfold pm
      rw [List.getElem?_map, List.getElem?_map, List.getElem?_range (by omega), List.getElem?_range (by simp; omega)]
      simp only [Option.map_some]
      rw [cs_rev hp hq h1]
      congr 2
    rw [List.getElem?_eq_getElem (by rw [List.length_reverse, pm_length]; exact h1), List.getElem?_eq_getElem h2] at e
    exact Option.some.inj e
theorem ev_pm {p q : List GF} (x : GF) (hp : 1 ≤ p.length) (hq : 1 ≤ q.length) : ev (pm p q) x = ev p x * ev q x := by
  rw [← evl_reverse, pm_reverse hp hq, evl_pm x (by simpa using hp), evl_reverse, evl_reverse]
end P
end Mine
end
section
open PySem PyProof.Rows
namespace Mine
local macro_rules | `(tactic| omega) => `(tactic| first | assumption | lia | omega +splitDisjunctions)
open P GF
noncomputable def B (p : List GF) : O := .bytes (p.map GF.val)
noncomputable def Nm (p : List GF) : O := .nums (p.map fun a => (a.val : Int))
noncomputable def IsP (o : O) (p : List GF) : Prop := o = B p ∨ o = Nm p
noncomputable def Tab (hp : List O) : Prop := hp[0]? = some (.bytes G.LOG) ∧ hp[1]? = some (.bytes G.EXP)
noncomputable def GS : List V := [.ref 0, .ref 1, .int 255]
theorem x_g0 {Gf : Fns} {loc : Loc} {hp : List O} {Q : QE} : wX Gf GS (.gv 0) loc hp Q = Q (.ref 0) hp := rfl
theorem x_g1 {Gf : Fns} {loc : Loc} {hp : List O} {Q : QE} : wX Gf GS (.gv 1) loc hp Q = Q (.ref 1) hp := rfl
theorem x_g2 {Gf : Fns} {loc : Loc} {hp : List O} {Q : QE} : wX Gf GS (.gv 2) loc hp Q = Q (.int 255) hp := rfl
theorem slotK_some {v : V} {hp : List O} {Q : QE} : slotK (some v) hp Q = Q v hp := rfl
theorem setL_z {a : Option V} {r : List (Option V)} {v : V} : setL (a :: r) 0 v = some v :: r := rfl
theorem setL_s {a : Option V} {r : List (Option V)} {k : Nat} {v : V} : setL (a :: r) (k + 1) v = a :: setL r k v := rfl
theorem kn_L {Gf : Fns} {gs : List V} {n k : Nat} {r : SL} {Q : QS} {vs : List (Option V)} {v : V} {hp : List O} (h : wSL Gf gs n r ⟨L (setL vs k v), hp⟩ Q) : Kont Gf gs n r Q .next ⟨(L vs).set k v, hp⟩ := by
  show wSL Gf gs n r _ Q
  rw [L_set]; exact h
theorem as_L {Gf : Fns} {gs : List V} {n k : Nat} {r : SL} {Q : QS} {vs : List (Option V)} {v : V} {hp : List O} (h : wSL Gf gs n r ⟨L (setL vs k v), hp⟩ Q) : wSL Gf gs n r ⟨(L vs).set k v, hp⟩ Q := by
  rw [L_set]; exact h
theorem as_L2 {Gf : Fns} {gs : List V} {n k j : Nat} {r : SL} {Q : QS} {vs : List (Option V)} {v w : V} {hp : List O} (h : wSL Gf gs n r ⟨L (setL (setL vs k v) j w), hp⟩ Q) : wSL Gf gs n r ⟨((L vs).set k v).set j w, hp⟩ Q := by
  rw [L_set, L_set]; exact h
theorem ap_len {hp t : List O} {k : Nat} (hk : t.length = k) : (hp ++ t).length = hp.length + k := by rw [List.length_append, hk]
theorem kn_A {Gf : Fns} {gs : List V} {n k : Nat} {r : SL} {Q : QS} {vs : List (Option V)} {hp t l : List O} (k' : Nat) (hk : t.length = k') (h : wSL Gf gs n r ⟨L (setL vs k (.ref (hp.length + k'))), hp ++ (t ++ l)⟩ Q) :
    Kont Gf gs n r Q .next ⟨(L vs).set k (.ref (hp ++ t).length), (hp ++ t) ++ l⟩ := by
  show wSL Gf gs n r _ Q
  rw [L_set, ap_len hk, List.append_assoc]; exact h
theorem kontL {Gf : Fns} {gs : List V} {n : Nat} {r : SL} {Q : QS} {vs : List (Option V)} {hp : List O} : Kont Gf gs n r Q .next ⟨L vs, hp⟩ = wSL Gf gs n r ⟨L vs, hp⟩ Q := rfl
theorem ax_L {Gf : Fns} {gs : List V} {k : Nat} {e : X} {Q : QE} {vs : List (Option V)} {v : V} {hp : List O} (h : wX Gf gs e (L (setL vs k v)) hp Q) : wX Gf gs e ((L vs).set k v) hp Q := by
  rw [L_set]; exact h
theorem oneK_A {hp t l : List O} {Q : QE} (k : Nat) (hk : t.length = k) (q : Q (.ref (hp.length + k)) (hp ++ (t ++ l))) : OneK Q (.one (.ref (hp ++ t).length)) ((hp ++ t) ++ l) := by
  rw [ap_len hk, List.append_assoc]; exact q
theorem compR_introA {Gf : Fns} {gs : List V} {loc : Loc} {hp t : List O} {Q : QE} {k m : Nat} {elt : X} (k' : Nat) (hk : t.length = k') (f : Nat → Int) (hm : m ≤ SZ) (h : ∀ i, i < m → wX Gf gs elt (loc.set k (.int (i : Int))) (hp ++ t) (Is (.int (f i)) (hp ++ t))) (q : Q (.ref (hp.length + k')) (hp ++ (t ++ [.nums ((List.range m).map f)]))) :
    CompRK Gf gs k elt loc Q (.int (m : Int)) (hp ++ t) := compR_intro f hm h (by rw [ap_len hk, List.append_assoc]; exact q)
theorem lkA {hp t : List O} {Q : QE} {vs : List V} {is : List Int} (k : Nat) (hk : t.length = k) (hi : intsOf vs = some is) (hs : Nat.ble is.length SZ = true) (q : Q (.ref (hp.length + k)) (hp ++ (t ++ [.nums is]))) : ListK Q vs (hp ++ t) := by
  unfold ListK
  rw [hi]
  exact ⟨Nat.le_of_ble_eq_true hs, by rw [ap_len hk, List.append_assoc]; exact q⟩
theorem lk0 {hp : List O} {Q : QE} {vs : List V} {is : List Int} (hi : intsOf vs = some is) (hs : Nat.ble is.length SZ = true) (q : Q (.ref hp.length) (hp ++ [.nums is])) : ListK Q vs hp := by
  unfold ListK
  rw [hi]
  exact ⟨Nat.le_of_ble_eq_true hs, q⟩
theorem unpK2 {Gf : Fns} {gs : List V} {n k j : Nat} {r : SL} {Q : QS} {vs : List (Option V)} {v w : V} {hp : List O} (h : wSL Gf gs n r ⟨L (setL (setL vs k v) j w), hp⟩ Q) : UnpK (L vs) [k, j] (Kont Gf gs n r Q) (.many true [v, w]) hp := ⟨rfl, rfl, as_L2 h⟩
theorem unpK2A {Gf : Fns} {gs : List V} {n k j : Nat} {r : SL} {Q : QS} {vs : List (Option V)} {hp t l : List O} (k' k'' : Nat) (hk : t.length = k') (hk2 : k' + 1 = k'') (h : wSL Gf gs n r ⟨L (setL (setL vs k (.ref (hp.length + k'))) j (.ref (hp.length + k''))), hp ++ (t ++ l)⟩ Q) :
    UnpK (L vs) [k, j] (Kont Gf gs n r Q) (.many true [.ref (hp ++ t).length, .ref ((hp ++ t).length + 1)]) ((hp ++ t) ++ l) := unpK2 (by subst hk2; rw [ap_len hk, List.append_assoc, Nat.add_assoc]; exact h)
noncomputable def AugLK (loc : Loc) (k : Nat) (i : Int) (Q : QS) : QE := fun v hp1 => match v with
  | .int j => Operator.BitXor = .BitXor ∧ 0 ≤ i ∧ 0 ≤ j ∧ Q .next ⟨loc.set k (.int ((i.toNat ^^^ j.toNat : Nat) : Int)), hp1⟩
  | _ => False
theorem augL_P {Gf : Fns} {gs : List V} {n k : Nat} {e : X} {loc : Loc} {hp : List O} {Q : QS} {i : Int} (hl : loc k = some (.int i)) (q : wX Gf gs e loc hp (AugLK loc k i Q)) : wS Gf gs n (.augL k .BitXor e) ⟨loc, hp⟩ Q := by
  rw [s_augL hl]; exact q
theorem augLK_G {loc : Loc} {k : Nat} {hp : List O} {Q : QS} {x y : GF} (q : Q .next ⟨loc.set k (.int ((x + y).val : Int)), hp⟩) : AugLK loc k (x.val : Int) Q (.int (y.val : Int)) hp :=
  ⟨rfl, Int.natCast_nonneg _, Int.natCast_nonneg _, by rw [val_add] at q; exact q⟩
theorem cutK {Gf : Fns} {gs : List V} {n m : Nat} {body : SL} {st : St} {J : St → Prop} (h : ∀ K : QS, (∀ st, Turn n J .next st → K .next st) → wSL Gf gs m body st K) : wSL Gf gs m body st (Turn n J) := h _ fun _ x => x
theorem get_app {hp t : List O} {a : Nat} {o : O} (h : hp[a]? = some o) : (hp ++ t)[a]? = some o := by
  rw [List.getElem?_append_left (List.getElem?_eq_some_iff.mp h).1]; exact h
theorem get_new {hp t : List O} {i : Nat} : (hp ++ t)[hp.length + i]? = t[i]? := by
  rw [List.getElem?_append_right (by omega), Nat.add_sub_cancel_left]
theorem get_new0 {hp t : List O} : (hp ++ t)[hp.length]? = t[0]? := get_new (i := 0)
theorem set_new {hp t : List O} {i : Nat} {o : O} : (hp ++ t).set (hp.length + i) o = hp ++ t.set i o := by
  rw [List.set_append_right _ _ (by omega), Nat.add_sub_cancel_left]
theorem set_new0 {hp t : List O} {o : O} : (hp ++ t).set hp.length o = hp ++ t.set 0 o := set_new (i := 0)
theorem lt_of_get {hp : List O} {a : Nat} {o : O} (h : hp[a]? = some o) : a < hp.length := (List.getElem?_eq_some_iff.mp h).1
theorem Tab.app {hp t : List O} (h : Tab hp) : Tab (hp ++ t) := ⟨get_app h.1, get_app h.2⟩
theorem loc_set (l : Loc) (k j : Nat) (v : V) : (l.set k v) j = if j = k then some v else l j := rfl
theorem idx_bytes {hp : List O} {a i : Nat} {l : List Nat} {x : Nat} {Q : QE} (h : hp[a]? = some (.bytes l)) (hx : l[i]? = some x) (hs : l.length ≤ SZ) (q : Q (.int x) hp) : wIdx (.ref a) (.int (i : Int)) hp Q := by
  have hi := (List.getElem?_eq_some_iff.mp hx).1
  unfold wIdx
  dsimp only
  rw [h]
  dsimp only
  rw [pidx_nat hi, Option.bind_some, hx]
  exact ⟨hs, q⟩
theorem idx_nums {hp : List O} {a i : Nat} {l : List Int} {x : Int} {Q : QE} (h : hp[a]? = some (.nums l)) (hx : l[i]? = some x) (hs : l.length ≤ SZ) (q : Q (.int x) hp) : wIdx (.ref a) (.int (i : Int)) hp Q := by
  have hi := (List.getElem?_eq_some_iff.mp hx).1
  unfold wIdx
  dsimp only
  rw [h]
  dsimp only
  rw [pidx_nat hi, Option.bind_some, hx]
  exact ⟨hs, q⟩
theorem getD_some {p : List GF} {i : Nat} (hi : i < p.length) : p[i]? = some (p.getD i 0) := by
  rw [List.getD_eq_getElem?_getD, List.getElem?_eq_getElem hi]; rfl
theorem idx_P {hp : List O} {a i : Nat} {o : O} {p : List GF} {Q : QE} (h : hp[a]? = some o) (ho : IsP o p) (hi : i < p.length) (hs : p.length ≤ SZ) (q : Q (.int (p.getD i 0).val) hp) : wIdx (.ref a) (.int (i : Int)) hp Q := by
  rcases ho with rfl | rfl
  · exact idx_bytes h (by rw [List.getElem?_map, getD_some hi]; rfl) (by rw [List.length_map]; exact hs) q
  · exact idx_nums h (by rw [List.getElem?_map, getD_some hi]; rfl) (by rw [List.length_map]; exact hs) q
theorem lenLOG : G.LOG.length = 256 := by decide +kernel
theorem lenEXP : G.EXP.length = 510 := by decide +kernel
theorem idx_log {hp : List O} {x : Nat} {Q : QE} (T : Tab hp) (hx : x < 256) (q : Q (.int (G.lg x : Nat)) hp) : wIdx (.ref 0) (.int (x : Int)) hp Q :=
  idx_bytes T.1 (by
    unfold G.lg
    rw [List.getD_eq_getElem?_getD, List.getElem?_eq_getElem (by rw [lenLOG]; exact hx)]; rfl) (by rw [lenLOG]; decide) q
theorem idx_exp {hp : List O} {n : Nat} {Q : QE} (T : Tab hp) (hn : n < 510) (q : Q (.int (G.pw n : Nat)) hp) : wIdx (.ref 1) (.int (n : Int)) hp Q :=
  idx_bytes T.2 (G.exp_pw n hn) (by rw [lenEXP]; decide) q
theorem len_P {hp : List O} {a : Nat} {o : O} {p : List GF} {Q : QE} (h : hp[a]? = some o) (ho : IsP o p) (hs : p.length ≤ SZ) (q : Q (.int (p.length : Nat)) hp) : wBI .len [.ref a] hp Q := by
  rcases ho with rfl | rfl
  · unfold wBI
    dsimp only
    rw [h]
    exact ⟨Nat.le_trans (Nat.le_of_eq (List.length_map _)) hs, (congrArg (fun n : Nat => Q (.int n) hp) (List.length_map _)).mpr q⟩
  · unfold wBI
    dsimp only
    rw [h]
    exact ⟨Nat.le_trans (Nat.le_of_eq (List.length_map _)) hs, (congrArg (fun n : Nat => Q (.int n) hp) (List.length_map _)).mpr q⟩
theorem bi_int {i : Int} {hp : List O} {Q : QE} : wBI .int [.int i] hp Q = Q (.int i) hp := rfl
theorem mk_ba {i : Int} {n : Nat} {hp : List O} {Q : QE} (e : i = n) (h : n ≤ SZ) (q : Q (.ref hp.length) (hp ++ [.bytes (List.replicate n 0)])) : wBI .bytearray [.int i] hp Q := by
  subst e; exact ⟨Int.natCast_nonneg _, Int.ofNat_le.mpr h, q⟩
theorem mk_baA {i : Int} {n : Nat} {hp t : List O} {Q : QE} (k : Nat) (hk : t.length = k) (e : i = n) (h : n ≤ SZ) (q : Q (.ref (hp.length + k)) (hp ++ (t ++ [.bytes (List.replicate n 0)]))) : wBI .bytearray [.int i] (hp ++ t) Q :=
  mk_ba e h (by rw [ap_len hk, List.append_assoc]; exact q)
theorem b_add {i j : Int} {hp Q} : wBin .Add (.int i) (.int j) hp Q = Q (.int (i + j)) hp := rfl
theorem b_sub {i j : Int} {hp Q} : wBin .Sub (.int i) (.int j) hp Q = Q (.int (i - j)) hp := rfl
theorem b_mul {i j : Int} {hp Q} : wBin .Mult (.int i) (.int j) hp Q = (i.natAbs < 2 ^ 64 ∧ j.natAbs < 2 ^ 64 ∧ Q (.int (i * j)) hp) := rfl
theorem b_div {i j : Int} {hp Q} : wBin .FloorDiv (.int i) (.int j) hp Q = (j ≠ 0 ∧ j.natAbs < 1073741824 ∧ Q (.int (i.fdiv j)) hp) := rfl
theorem b_mod {i j : Int} {hp Q} : wBin .Mod (.int i) (.int j) hp Q = (j ≠ 0 ∧ Q (.int (i.fmod j)) hp) := rfl
theorem b_xor {i j : Int} {hp Q} : wBin .BitXor (.int i) (.int j) hp Q = (0 ≤ i ∧ 0 ≤ j ∧ Q (.int ((i.toNat ^^^ j.toNat : Nat) : Int)) hp) := rfl
theorem b_and {i j : Int} {hp Q} : wBin .BitAnd (.int i) (.int j) hp Q = (0 ≤ i ∧ 0 ≤ j ∧ Q (.int ((i.toNat &&& j.toNat : Nat) : Int)) hp) := rfl
theorem b_pow {i j : Int} {hp Q} : wBin .Pow (.int i) (.int j) hp Q = (0 ≤ i ∧ i ≤ 256 ∧ 0 ≤ j ∧ j ≤ 16 ∧ Q (.int (i ^ j.toNat)) hp) := rfl
theorem b_shl {i j : Int} {hp Q} : wBin .LShift (.int i) (.int j) hp Q = (0 ≤ i ∧ i < 2 ^ 64 ∧ j = 1 ∧ Q (.int (i * 2)) hp) := rfl
theorem b_shr {i j : Int} {hp Q} : wBin .RShift (.int i) (.int j) hp Q = (0 ≤ i ∧ i < 2 ^ 64 ∧ j = 1 ∧ Q (.int (i / 2)) hp) := rfl
theorem shl_P {i : Int} {hp Q} (h0 : 0 ≤ i) (h1 : i < 2 ^ 64) (q : Q (.int (i * 2)) hp) : wBin .LShift (.int i) (.int 1) hp Q := ⟨h0, h1, rfl, q⟩
theorem shr_P {i : Int} {hp Q} (h0 : 0 ≤ i) (h1 : i < 2 ^ 64) (q : Q (.int (i / 2)) hp) : wBin .RShift (.int i) (.int 1) hp Q := ⟨h0, h1, rfl, q⟩
theorem b_xorG {a b : GF} {hp Q} (q : Q (.int (a + b).val) hp) : wBin .BitXor (.int a.val) (.int b.val) hp Q := ⟨Int.natCast_nonneg _, Int.natCast_nonneg _, by rw [val_add] at q; exact q⟩
theorem b_catN {a b : Nat} {x y : List Int} {hp : List O} {Q : QE} (h1 : hp[a]? = some (.nums x)) (h2 : hp[b]? = some (.nums y)) (hs : x.length + y.length ≤ SZ) (q : Q (.ref hp.length) (hp ++ [.nums (x ++ y)])) : wBin .Add (.ref a) (.ref b) hp Q := by
  unfold wBin; dsimp only; rw [h1, h2]; exact ⟨hs, q⟩
theorem b_catB {a b : Nat} {x y : List Nat} {hp : List O} {Q : QE} (h1 : hp[a]? = some (.bytes x)) (h2 : hp[b]? = some (.bytes y)) (hs : x.length + y.length ≤ SZ) (q : Q (.ref hp.length) (hp ++ [.bytes (x ++ y)])) : wBin .Add (.ref a) (.ref b) hp Q := by
  unfold wBin; dsimp only; rw [h1, h2]; exact ⟨hs, q⟩
theorem c_eq {i j : Int} {hp Q} : wCmp .Eq (.int i) (.int j) hp Q = Q (.bool (decide (i = j))) hp := rfl
theorem c_ne {i j : Int} {hp Q} : wCmp .NotEq (.int i) (.int j) hp Q = Q (.bool (decide (i ≠ j))) hp := rfl
theorem c_lt {i j : Int} {hp Q} : wCmp .Lt (.int i) (.int j) hp Q = Q (.bool (decide (i < j))) hp := rfl
theorem c_le {i j : Int} {hp Q} : wCmp .LtE (.int i) (.int j) hp Q = Q (.bool (decide (i ≤ j))) hp := rfl
theorem c_gt {i j : Int} {hp Q} : wCmp .Gt (.int i) (.int j) hp Q = Q (.bool (decide (i > j))) hp := rfl
theorem c_is {v : V} {hp Q} (h : ∀ i j, ¬ (v = .int i ∧ V.none = .int j)) : wCmp .Is v .none hp Q = Q (.bool (decide (v = .none))) hp := by cases v <;> rfl
theorem t_bool {b : Bool} {hp Q} : wTruth (.bool b) hp Q = Q b hp := rfl
theorem t_int {i : Int} {hp Q} : wTruth (.int i) hp Q = Q (decide (i ≠ 0)) hp := rfl
theorem t_none {hp Q} : wTruth .none hp Q = Q false hp := rfl
theorem g0 : GS[0]? = some (.ref 0) := rfl
theorem g1 : GS[1]? = some (.ref 1) := rfl
theorem g2 : GS[2]? = some (.int 255) := rfl
theorem lz {α : Type} {a : α} {l : List α} : (a :: l)[0]? = some a := rfl
theorem ls {α : Type} {a : α} {l : List α} {i : Nat} : (a :: l)[i + 1]? = l[i]? := rfl
inductive subS (us : List V) (hp : List O) (Q : Res → List O → Prop) : Prop
  | mk (x y : GF) (h0 : us = [.int x.val, .int y.val]) (h1 : Q (.one (.int (x + y).val)) hp)
inductive invS (us : List V) (hp : List O) (Q : Res → List O → Prop) : Prop
  | mk (x : GF) (h0 : x ≠ 0) (h1 : us = [.int x.val]) (h2 : Tab hp) (h3 : Q (.one (.int (inv x).val)) hp)
inductive mulS (us : List V) (hp : List O) (Q : Res → List O → Prop) : Prop
  | mk (x y : GF) (h0 : us = [.int x.val, .int y.val]) (h1 : Tab hp) (h2 : Q (.one (.int (x * y).val)) hp)
inductive divS (us : List V) (hp : List O) (Q : Res → List O → Prop) : Prop
  | mk (x y : GF) (h0 : y ≠ 0) (h1 : us = [.int x.val, .int y.val]) (h2 : Tab hp) (h3 : Q (.one (.int (x * inv y).val)) hp)
noncomputable def powI (x : GF) (n : Int) : GF := al ((x.log * n) % 255).toNat
inductive powS (us : List V) (hp : List O) (Q : Res → List O → Prop) : Prop
  | mk (x : GF) (n : Int) (h0 : n.natAbs < 2 ^ 64) (h1 : us = [.int x.val, .int n]) (h2 : Tab hp) (h3 : Q (.one (.int (powI x n).val)) hp)
theorem tr_sub {Gf : Fns} {us hp Q} (h : subS us hp Q) : wSL Gf GS hp.length b_gf_sub ⟨fun i => us[i]?, hp⟩ (RetsV hp.length Q) := by
  obtain ⟨x, y, rfl, q⟩ := h
  unfold b_gf_sub
  simp only [sl_cons, sl_nil, kont_next, kont_ret, s_iff, s_ret, x_slot, slotK_some, lz, ls, x_int, x_bin, x_idx, k_cmp, k_or, co_cons, co_nil, x_g0, x_g1, x_g2, b_add, b_sub, b_mul, b_mod, c_eq, t_bool]
  refine b_xorG ?_
  exact rets_int0 q
theorem log_lt (x : GF) : x.log < 255 := G.lg_lt x.val x.2
theorem tr_inv {Gf : Fns} {us hp Q} (h : invS us hp Q) : wSL Gf GS hp.length b_gf_inverse ⟨fun i => us[i]?, hp⟩ (RetsV hp.length Q) := by
  obtain ⟨x, hx, rfl, T, q⟩ := h
  unfold b_gf_inverse
  simp only [sl_cons, sl_nil, kont_next, kont_ret, s_iff, s_ret, x_slot, slotK_some, lz, ls, x_int, x_bin, x_idx, k_cmp, k_or, co_cons, co_nil, x_g0, x_g1, x_g2, b_add, b_sub, b_mul, b_mod, c_eq, t_bool]
  refine idx_log T x.val_lt ?_
  simp only [sl_cons, sl_nil, kont_next, kont_ret, s_iff, s_ret, x_slot, slotK_some, lz, ls, x_int, x_bin, x_idx, k_cmp, k_or, co_cons, co_nil, x_g0, x_g1, x_g2, b_add, b_sub, b_mul, b_mod, c_eq, t_bool]
  have e : (255 : Int) - (G.lg x.val : Nat) = ((255 - x.log : Nat) : Int) := by
    exact (Int.ofNat_sub (Nat.le_of_lt (log_lt x))).symm
  rw [e]
  refine idx_exp T (by omega) (rets_int0 ?_)
  unfold inv at q
  rw [if_neg hx] at q
  exact q
theorem val_eq_zero {x : GF} : ((x.val : Int) = 0) ↔ x = 0 := ⟨fun h => eq_zero (by omega), fun h => by subst h; rfl⟩
theorem al_val (n : Nat) : (al n).val = G.pw n := rfl
theorem fmod_nat (a b : Nat) (h : b ≠ 0) : Int.fmod (a : Int) (b : Int) = ((a % b : Nat) : Int) := by
  rw [Int.fmod_eq_emod_of_nonneg _ (by omega)]; simp
theorem tr_mul {Gf : Fns} {us hp Q} (h : mulS us hp Q) : wSL Gf GS hp.length b_gf_mul ⟨fun i => us[i]?, hp⟩ (RetsV hp.length Q) := by
  obtain ⟨x, y, rfl, T, q⟩ := h
  unfold b_gf_mul
  simp only [sl_cons, sl_nil, kont_next, kont_ret, s_iff, s_ret, x_slot, slotK_some, lz, ls, x_int, x_bin, x_idx, k_cmp, k_or, co_cons, co_nil, x_g0, x_g1, x_g2, b_add, b_sub, b_mul, b_mod, c_eq, t_bool]
  by_cases hx : x = 0
  · subst hx
    rw [zero_mul'] at q
    exact rets_int0 q
  have dz : ∀ z : GF, z ≠ 0 → decide ((z.val : Int) = 0) = false := fun z h => decide_eq_false fun e => h (val_eq_zero.mp e)
  rw [dz x hx]
  simp only [sl_cons, sl_nil, kont_next, kont_ret, s_iff, s_ret, x_slot, slotK_some, lz, ls, x_int, x_bin, x_idx, k_cmp, k_or, co_cons, co_nil, x_g0, x_g1, x_g2, b_add, b_sub, b_mul, b_mod, c_eq, t_bool]
  by_cases hy : y = 0
  · subst hy
    rw [mul_zero'] at q
    exact rets_int0 q
  rw [dz y hy]
  simp only [sl_cons, sl_nil, kont_next, kont_ret, s_iff, s_ret, x_slot, slotK_some, lz, ls, x_int, x_bin, x_idx, k_cmp, k_or, co_cons, co_nil, x_g0, x_g1, x_g2, b_add, b_sub, b_mul, b_mod, c_eq, t_bool]
  refine idx_log T x.val_lt ?_
  refine idx_log T y.val_lt ?_
  simp only [sl_cons, sl_nil, kont_next, kont_ret, s_iff, s_ret, x_slot, slotK_some, lz, ls, x_int, x_bin, x_idx, k_cmp, k_or, co_cons, co_nil, x_g0, x_g1, x_g2, b_add, b_sub, b_mul, b_mod, c_eq, t_bool]
  refine ⟨by decide, ?_⟩
  rw [← Int.natCast_add, show (255 : Int) = ((255 : Nat) : Int) from rfl, fmod_nat _ _ (by decide)]
  refine idx_exp T (Nat.lt_trans (Nat.mod_lt _ (by decide)) (by decide)) (rets_int0 ?_)
  rw [G.pw_mod]
  have e : x * y = al (x.log + y.log) := by rw [← al_mul, al_log hx, al_log hy]
  rw [e] at q
  exact q
theorem tr_div {Gf : Fns} {us hp Q} (h : divS us hp Q) : wSL Gf GS hp.length b_gf_div ⟨fun i => us[i]?, hp⟩ (RetsV hp.length Q) := by
  obtain ⟨x, y, hy, rfl, T, q⟩ := h
  unfold b_gf_div
  simp only [sl_cons, sl_nil, kont_next, kont_ret, s_iff, s_ret, x_slot, slotK_some, lz, ls, x_int, x_bin, x_idx, k_cmp, k_or, co_cons, co_nil, x_g0, x_g1, x_g2, b_add, b_sub, b_mul, b_mod, c_eq, t_bool]
  have dz : ∀ z : GF, z ≠ 0 → decide ((z.val : Int) = 0) = false := fun z h => decide_eq_false fun e => h (val_eq_zero.mp e)
  rw [dz y hy]
  simp only [sl_cons, sl_nil, kont_next, kont_ret, s_iff, s_ret, x_slot, slotK_some, lz, ls, x_int, x_bin, x_idx, k_cmp, k_or, co_cons, co_nil, x_g0, x_g1, x_g2, b_add, b_sub, b_mul, b_mod, c_eq, t_bool]
  by_cases hx : x = 0
  · subst hx
    rw [zero_mul'] at q
    exact rets_int0 q
  rw [dz x hx]
  simp only [sl_cons, sl_nil, kont_next, kont_ret, s_iff, s_ret, x_slot, slotK_some, lz, ls, x_int, x_bin, x_idx, k_cmp, k_or, co_cons, co_nil, x_g0, x_g1, x_g2, b_add, b_sub, b_mul, b_mod, c_eq, t_bool]
  refine idx_log T x.val_lt ?_
  simp only [sl_cons, sl_nil, kont_next, kont_ret, s_iff, s_ret, x_slot, slotK_some, lz, ls, x_int, x_bin, x_idx, k_cmp, k_or, co_cons, co_nil, x_g0, x_g1, x_g2, b_add, b_sub, b_mul, b_mod, c_eq, t_bool]
  refine idx_log T y.val_lt ?_
  simp only [sl_cons, sl_nil, kont_next, kont_ret, s_iff, s_ret, x_slot, slotK_some, lz, ls, x_int, x_bin, x_idx, k_cmp, k_or, co_cons, co_nil, x_g0, x_g1, x_g2, b_add, b_sub, b_mul, b_mod, c_eq, t_bool]
  refine ⟨by decide, ?_⟩
  have e : ((G.lg x.val : Nat) : Int) + 255 - ((G.lg y.val : Nat) : Int) = ((x.log + (255 - y.log) : Nat) : Int) := by
    have := log_lt y
    show (x.log : Int) + 255 - (y.log : Nat) = _
    omega
  rw [e, show (255 : Int) = ((255 : Nat) : Int) from rfl, fmod_nat _ _ (by decide)]
  refine idx_exp T (Nat.lt_trans (Nat.mod_lt _ (by decide)) (by decide)) (rets_int0 ?_)
  rw [G.pw_mod]
  have e : x * inv y = al (x.log + (255 - y.log)) := by
    unfold inv
    rw [if_neg hy, ← al_mul, al_log hx]
  rw [e] at q
  exact q
theorem tr_pow {Gf : Fns} {us hp Q} (h : powS us hp Q) : wSL Gf GS hp.length b_gf_pow ⟨fun i => us[i]?, hp⟩ (RetsV hp.length Q) := by
  obtain ⟨x, n, hn, rfl, T, q⟩ := h
  unfold b_gf_pow
  simp only [sl_cons, sl_nil, kont_next, kont_ret, s_iff, s_ret, x_slot, slotK_some, lz, ls, x_int, x_bin, x_idx, k_cmp, k_or, co_cons, co_nil, x_g0, x_g1, x_g2, b_add, b_sub, b_mul, b_mod, c_eq, t_bool]
  refine idx_log T x.val_lt ?_
  simp only [sl_cons, sl_nil, kont_next, kont_ret, s_iff, s_ret, x_slot, slotK_some, lz, ls, x_int, x_bin, x_idx, k_cmp, k_or, co_cons, co_nil, x_g0, x_g1, x_g2, b_add, b_sub, b_mul, b_mod, c_eq, t_bool]
  refine ⟨?_, hn, by decide, ?_⟩
  · have := log_lt x
    show (x.log : Int).natAbs < _
    omega
  · have h1 : (((x.log : Nat) : Int) * n) % 255 < 255 := Int.emod_lt_of_pos _ (by decide)
    have h0 : 0 ≤ (((x.log : Nat) : Int) * n) % 255 := Int.emod_nonneg _ (by decide)
    have e : Int.fmod (((G.lg x.val : Nat) : Int) * n) 255 = (((((x.log : Nat) : Int) * n) % 255).toNat : Int) := by
      rw [Int.fmod_eq_emod_of_nonneg _ (by decide), Int.toNat_of_nonneg h0]; rfl
    rw [e]
    exact idx_exp T (by omega) (rets_int0 q)
theorem log_al (n : Nat) : (al n).log = n % 255 := G.lg_pw n
theorem powI_gen (n : Nat) : powI (al 1) n = al n := by
  unfold powI
  rw [log_al, show (1 % 255) = 1 from rfl, ← al_mod n]
  congr 1
  omega
theorem powI_one {x : GF} (h : x ≠ 0) : powI x 1 = x := by
  unfold powI
  have := log_lt x
  rw [show (((x.log : Nat) : Int) * 1 % 255).toNat = x.log by omega, al_log h]
theorem powI_neg {c : Nat} (h : c ≤ 255) : powI (al 1) (-(255 - (c : Int))) = al c := by
  unfold powI
  rw [log_al, show (1 % 255) = 1 from rfl, ← al_mod c]
  congr 1
  omega
end Mine
end
section
open PySem PyProof.Rows
namespace Mine
local macro_rules | `(tactic| omega) => `(tactic| first | assumption | lia | omega +splitDisjunctions)
open P GF
inductive noS (us : List V) (hp : List O) (Q : Res → List O → Prop) : Prop
  | mk (x : Nat) (h0 : x < 256) (h1 : us = [.int (x : Int), .int 2, .int 285, .int 256]) (h2 : Q (.one (.int (G.xt x : Nat))) hp)
inductive initS (us : List V) (hp : List O) (Q : Res → List O → Prop) : Prop
  | mk (h0 : us = []) (h1 : Q (.many false [.ref hp.length, .ref (hp.length + 1), .int 255]) (hp ++ [.bytes G.LOG, .bytes G.EXP]))
theorem xor0 (x : Nat) : 0 ^^^ x = x := Nat.zero_xor x
noncomputable def noI (x : Nat) (hp : List O) : Nat → St → Prop
  | 2, st => st = ⟨L [some (.int (x : Int)), some (.int 2), some (.int 285), some (.int 256), some (.bool true), some (.int 0)], hp⟩
  | 1, st => st = ⟨L [some (.int (G.xt x : Nat)), some (.int 1), some (.int 285), some (.int 256), some (.bool true), some (.int 0)], hp⟩
  | 0, st => st = ⟨L [none, some (.int 0), none, none, none, some (.int (G.xt x : Nat))], hp⟩
  | _, _ => False
theorem turnM0 {hp : List O} {l : Loc} {vs : List (Option V)} {J : Nat → St → Prop} {m : Nat} (hv : Via hp.length [] l vs 0) (m' : Nat) (hm : m' < m) (hJ : J m' ⟨L vs, hp⟩) : TurnM hp.length m J .next ⟨l, hp⟩ := by
  have := turnM (hp := hp) (t := []) (t' := []) (J := J) [] (by decide) rfl hv m' hm (by rwa [List.append_nil])
  rwa [List.append_nil] at this
theorem no_tail {Gf : Fns} {gs : List V} {hp : List O} {Q : QS} {x y r : Int} {vs : List (Option V)} (hvs : vs = [some (.int x), some (.int y), some (.int 285), some (.int 256), some (.bool true), some (.int r)]) (hy : 0 ≤ y ∧ y < 2 ^ 64) (hx : 0 ≤ x ∧ x < 2 ^ 64)
    (q : ∀ z : Nat, z = (if (x * 2).toNat &&& 256 = 0 then (x * 2).toNat else (x * 2).toNat ^^^ 285) → Q .next ⟨L [some (.int z), some (.int (y / 2)), some (.int 285), some (.int 256), some (.bool true), some (.int r)], hp⟩) :
    wSL Gf gs hp.length (.cons (.assign 1 (.bin .RShift (.loc 1) (.int 1))) (.cons (.assign 0 (.bin .LShift (.loc 0) (.int 1))) (.cons (.iff (.and (.cons (.cmp .Gt (.loc 2) (.int 0)) (.cons (.bin .BitAnd (.loc 0) (.loc 3)) .nil))) (.cons (.assign 0 (.bin .BitXor (.loc 0) (.loc 2))) .nil) .nil) .nil))) ⟨L vs, hp⟩ Q := by
  subst hvs
  have hx2 : 0 ≤ x * 2 := Int.mul_nonneg hx.1 (by decide)
  simp only [sl_cons, s_assign, x_bin, x_L, lz, ls, Option.getD_some, x_int, List.cons_append, List.nil_append]
  refine shr_P hy.1 hy.2 (kn_L ?_)
  simp only [setL_z, setL_s, sl_cons, s_assign, x_bin, x_L, lz, ls, Option.getD_some, x_int, List.cons_append, List.nil_append]
  refine shl_P hx.1 hx.2 (kn_L ?_)
  simp only [setL_z, setL_s, sl_cons, s_iff, k_and, ca_cons, ca_nil, k_cmp, k_bin, x_L, lz, ls, Option.getD_some, x_int, c_gt, t_bool, b_and, t_int, List.cons_append, List.nil_append]
  refine ⟨hx2, by decide, ?_⟩
  rw [show (256 : Int).toNat = 256 from rfl]
  by_cases h : (x * 2).toNat &&& 256 = 0
  · rw [h]
    have := q _ rfl
    rw [if_pos h, Int.toNat_of_nonneg hx2] at this
    exact this
  · rw [show decide (((((x * 2).toNat &&& 256 : Nat) : Int)) ≠ 0) = true from decide_eq_true fun e => h (Int.ofNat.inj e)]
    simp only [sl_cons, s_assign, x_bin, x_L, lz, ls, Option.getD_some, b_xor, List.cons_append, List.nil_append]
    refine ⟨hx2, by decide, kn_L ?_⟩
    have := q _ rfl
    rw [if_neg h] at this
    exact this
theorem xt_eq : ∀ x, x < 256 → G.xt x = if ((x : Int) * 2).toNat &&& 256 = 0 then ((x : Int) * 2).toNat else ((x : Int) * 2).toNat ^^^ 285 := by decide +kernel
theorem tr_no {Gf : Fns} {gs : List V} {us hp Q} (h : noS us hp Q) : wSL Gf gs hp.length b_gf_mult_noLUT ⟨fun i => (us ++ [.bool true])[i]?, hp⟩ (RetsV hp.length Q) := by
  obtain ⟨x, hx, rfl, q⟩ := h
  rw [L_start]
  unfold b_gf_mult_noLUT
  simp only [List.cons_append, List.nil_append, List.map_cons, List.map_nil, sl_cons, s_assign, x_int]
  refine kn_L ?_
  simp only [sl_cons, s_whil, List.cons_append, List.nil_append]
  refine ⟨noI x hp, ⟨2, rfl⟩, ?_⟩
  intro m st h
  rcases m with _ | _ | _ | m
  · obtain rfl := h
    exact rets_int0 q
  · obtain rfl := h
    have hy := G.xt_lt x hx
    show wSL Gf gs hp.length _ ⟨L [some (.int (G.xt x : Nat)), some (.int 1), some (.int 285), some (.int 256), some (.bool true), some (.int 0)], hp⟩ (TurnM hp.length 1 (noI x hp))
    simp only [sl_cons, s_iff, s_assign, k_bin, x_L, lz, ls, Option.getD_some, x_int, x_ite, x_bin, k_loc, t_bool, b_and, b_xor, t_int, List.cons_append, List.nil_append]
    refine ⟨by decide, by decide, by decide, Int.natCast_nonneg _, kn_L ?_⟩
    refine no_tail (x := (G.xt x : Nat)) (y := 1) (r := (((0 : Int).toNat ^^^ ((G.xt x : Nat) : Int).toNat : Nat) : Int)) rfl (by decide) ⟨Int.natCast_nonneg _, Int.lt_trans (Int.ofNat_lt.mpr hy) (by decide)⟩ fun z _ => ?_
    refine turnM0 (vs := [none, some (.int 0), none, none, none, some (.int (G.xt x : Nat))]) ?_ 0 (by decide) rfl
    exact via_none (via_int rfl (via_none (via_none (via_none (via_int (by rw [show (0 : Int).toNat = 0 from rfl, xor0]; rfl) trivial)))))
  · obtain rfl := h
    show wSL Gf gs hp.length _ ⟨L [some (.int (x : Nat)), some (.int 2), some (.int 285), some (.int 256), some (.bool true), some (.int 0)], hp⟩ (TurnM hp.length 2 (noI x hp))
    simp only [sl_cons, s_iff, k_bin, x_L, lz, ls, Option.getD_some, x_int, b_and, t_int, List.cons_append, List.nil_append]
    refine ⟨by decide, by decide, ?_⟩
    refine no_tail (x := x) (y := 2) (r := 0) rfl (by decide) ⟨Int.natCast_nonneg _, Int.lt_trans (Int.ofNat_lt.mpr hx) (by decide)⟩ fun z hz => ?_
    rw [hz, ← xt_eq x hx]
    refine turnM0 (vs := [some (.int (G.xt x : Nat)), some (.int 1), some (.int 285), some (.int 256), some (.bool true), some (.int 0)]) ?_ 1 (by decide) rfl
    exact via_int rfl (via_int rfl (via_int rfl (via_int rfl (via_bool rfl (via_int rfl trivial)))))
  · exact h.elim
noncomputable def LG : Nat → List Nat
  | 0 => List.replicate 256 0
  | i + 1 => (LG i).set (G.pw i) i
noncomputable def EX : Nat → List Nat
  | 0 => List.replicate 510 0
  | i + 1 => (EX i).set i (G.pw i)
noncomputable def EX2 : Nat → List Nat
  | 0 => EX 255
  | j + 1 => (EX2 j).set (255 + j) ((EX2 j).getD j 0)
theorem LG_len : ∀ i, (LG i).length = 256
  | 0 => by rw [LG, List.length_replicate]
  | i + 1 => by rw [LG, List.length_set, LG_len i]
theorem EX_len : ∀ i, (EX i).length = 510
  | 0 => by rw [EX, List.length_replicate]
  | i + 1 => by rw [EX, List.length_set, EX_len i]
theorem EX2_len : ∀ i, (EX2 i).length = 510
  | 0 => EX_len 255
  | i + 1 => by rw [EX2, List.length_set, EX2_len i]
theorem EX_lt : ∀ i, ∀ x ∈ EX i, x < 256
  | 0, x, h => by
    simp only [EX, List.mem_replicate] at h
    omega
  | i + 1, x, h => by
    simp only [EX] at h
    rcases List.mem_or_eq_of_mem_set h with h | rfl
    · exact EX_lt i x h
    · exact G.pw_lt i
theorem EX2_lt : ∀ i, ∀ x ∈ EX2 i, x < 256
  | 0, x, h => EX_lt 255 x h
  | i + 1, x, h => by
    simp only [EX2] at h
    rcases List.mem_or_eq_of_mem_set h with h | rfl
    · exact EX2_lt i x h
    · rw [List.getD_eq_getElem?_getD]
      cases e : (EX2 i)[i]? with
      | none => decide
      | some y => exact EX2_lt i y (List.mem_of_getElem? e)
theorem LG_end : LG 255 = G.LOG := by decide +kernel
theorem EX_get : ∀ i n, n < i → i ≤ 510 → (EX i)[n]? = some (G.pw n)
  | i + 1, n, h, hi => by
    rw [EX, List.getElem?_set]
    by_cases e : i = n
    · rw [if_pos e, if_pos (by rw [EX_len]; exact hi), e]
    · rw [if_neg e, EX_get i n (Nat.lt_of_le_of_ne (Nat.le_of_lt_succ h) (Ne.symm e)) (Nat.le_of_succ_le hi)]
theorem EX2_get : ∀ j n, j ≤ 255 → n < 255 + j → (EX2 j)[n]? = some (G.pw n)
  | 0, n, _, h => EX_get 255 n h (by decide)
  | j + 1, n, hj, h => by
    rw [EX2, List.getElem?_set]
    by_cases e : 255 + j = n
    · rw [if_pos e, if_pos (by rw [EX2_len]; omega), List.getD_eq_getElem?_getD, EX2_get j j (by omega) (by omega), ← e, ← G.pw_mod (255 + j), Nat.add_mod_left, G.pw_mod]; rfl
    · rw [if_neg e, EX2_get j n (by omega) (by omega)]
theorem EX_end : EX2 255 = G.EXP := by
  apply List.ext_getElem?
  intro n
  rcases Nat.lt_or_ge n 510 with h | h
  · rw [EX2_get 255 n (by decide) h, G.exp_pw n h]
  · rw [List.getElem?_eq_none (by rw [EX2_len]; exact h), List.getElem?_eq_none (by rw [lenEXP]; exact h)]
theorem tr_init {Gf : Fns} {gs : List V} {C : CallForm} (hG : Gf[0]? = some (C, noS)) {us hp Q} (h : initS us hp Q) : wSL Gf gs hp.length b_init_tables ⟨fun i => [V.int 285, .int 2, .int 8][i]?, hp⟩ (RetsV hp.length Q) := by
  obtain ⟨rfl, q⟩ := h
  rw [L_pad _ 5]
  unfold b_init_tables
  simp only [List.map_cons, List.map_nil, rep_s, rep_z, List.cons_append, List.nil_append, sl_cons, s_assign, x_L, x_int, x_bin, x_bi, xl_nil, xl_cons, bi_int, lz, ls, Option.getD_some, b_pow, b_sub]
  refine ⟨by decide, by decide, by decide, by decide, kn_L ?_⟩
  rw [show ((2 : Int) ^ (8 : Int).toNat - 1) = 255 from by decide]
  simp only [setL_z, setL_s, sl_cons, s_assign, x_L, x_int, x_bin, x_bi, xl_nil, xl_cons, lz, ls, Option.getD_some, b_mul, b_add]
  refine ⟨by decide, by decide, mk_ba (n := 510) (by decide) (by decide) (kn_L ?_)⟩
  simp only [setL_z, setL_s, sl_cons, s_assign, x_L, x_int, x_bin, x_bi, xl_nil, xl_cons, lz, ls, Option.getD_some, b_add]
  refine mk_baA 1 rfl (n := 256) (by decide) (by decide) (kn_L ?_)
  simp only [setL_z, setL_s, sl_cons, s_assign, x_int, List.cons_append, List.nil_append]
  refine kn_L ?_
  simp only [setL_z, setL_s, sl_cons, s_forR, x_L, x_int, lz, ls, Option.getD_some]
  refine for_zero (m := 255) (by decide) (fun i st => ∃ v, st = ⟨L [some (.int 285), some (.int 2), some (.int 8), some (.int 255), some (.ref hp.length), some (.ref (hp.length + 1)), some (.int (G.pw i : Nat)), v], hp ++ [.bytes (EX i), .bytes (LG i)]⟩) ⟨none, rfl⟩ ?_ ?_
  · rintro i st ⟨v, rfl⟩ hi
    refine as_L ?_
    simp only [sl_cons, sl_nil, kont_next, s_setI, s_assign, x_L, x_int, x_bin, x_idx, setL_z, setL_s, lz, ls, Option.getD_some, List.cons_append, List.nil_append]
    refine st_bytes (Nat.le_refl _) (by rw [get_new0]; rfl) (by rw [EX_len]; omega) (G.pw_lt i) (by rw [EX_len]; decide) ?_
    rw [set_new0]
    simp only [kont_next, sl_cons, sl_nil, s_setI, x_L, x_int, List.set_cons_zero, lz, ls, Option.getD_some]
    refine st_bytes (Nat.le_add_right _ _) (by rw [get_new]; rfl) (by rw [LG_len]; exact G.pw_lt i) (by omega) (by rw [LG_len]; decide) ?_
    rw [set_new]
    simp only [kont_next, sl_cons, sl_nil, s_assign, x_call, x_L, x_int, x_bin, xl_nil, xl_cons, List.set_cons_zero, List.set_cons_succ, lz, ls, Option.getD_some, b_add, List.cons_append, List.nil_append]
    refine callK_P hG ⟨G.pw i, G.pw_lt i, rfl, ?_⟩
    rw [oneK]
    refine turn (t' := [.bytes (EX (i + 1)), .bytes (LG (i + 1))]) (vs := [some (.int 285), some (.int 2), some (.int 8), some (.int 255), some (.ref hp.length), some (.ref (hp.length + 1)), some (.int (G.pw (i + 1) : Nat)), none]) [0, 1] (by decide) rfl ?_ ⟨_, rfl⟩
    (repeat' first | exact trivial | refine via_none ?_ | refine via_int rfl ?_ | refine via_bool rfl ?_ | refine via_non rfl ?_ | refine via_old (by omega) rfl ?_ | refine via_new0 rfl rfl ?_ | refine via_new rfl rfl ?_)
  · rintro st ⟨v, rfl⟩
    simp only [kont_next, sl_cons, s_forR, x_L, x_int, x_bin, x_idx, setL_z, setL_s, lz, ls, Option.getD_some, b_mul, List.cons_append, List.nil_append]
    refine ⟨by decide, by decide, ?_⟩
    rw [show ((255 : Int) * 2) = ((510 : Nat) : Int) by decide]
    refine for_from (a := 255) (by decide) (by decide) (fun i st => ∃ u v, st = ⟨L [some (.int 285), some (.int 2), some (.int 8), some (.int 255), some (.ref hp.length), some (.ref (hp.length + 1)), u, v], hp ++ [.bytes (EX2 i), .bytes (LG 255)]⟩) ⟨_, _, rfl⟩ ?_ ?_
    · rintro i st ⟨u, v, rfl⟩ hi
      refine as_L ?_
      simp only [sl_cons, sl_nil, kont_next, s_setI, x_L, x_int, x_bin, x_idx, setL_z, setL_s, lz, ls, Option.getD_some, b_sub, List.cons_append, List.nil_append]
      have e : ((255 + i : Nat) : Int) - 255 = (i : Int) := by omega
      rw [e]
      have hlt : i < (EX2 i).length := by rw [EX2_len]; omega
      have hget : (EX2 i)[i]? = some ((EX2 i).getD i 0) := by rw [List.getD_eq_getElem?_getD, List.getElem?_eq_getElem hlt]; rfl
      refine idx_bytes (by rw [get_new0]; rfl) hget (by rw [EX2_len]; decide) ?_
      refine st_bytes (Nat.le_refl _) (by rw [get_new0]; rfl) (by rw [EX2_len]; omega) (EX2_lt i _ (List.mem_of_getElem? hget)) (by rw [EX2_len]; decide) ?_
      simp only [kont_next, sl_nil, set_new0, List.set_cons_zero, List.cons_append, List.nil_append]
      refine turn (t' := [.bytes (EX2 (i + 1)), .bytes (LG 255)]) (vs := [some (.int 285), some (.int 2), some (.int 8), some (.int 255), some (.ref hp.length), some (.ref (hp.length + 1)), none, none]) [0, 1] (by decide) rfl ?_ ⟨_, _, rfl⟩
      (repeat' first | exact trivial | refine via_none ?_ | refine via_int rfl ?_ | refine via_bool rfl ?_ | refine via_non rfl ?_ | refine via_old (by omega) rfl ?_ | refine via_new0 rfl rfl ?_ | refine via_new rfl rfl ?_)
    · rintro st ⟨u, v, rfl⟩
      simp only [kont_next, sl_cons, s_retM, x_L, x_int, x_bin, xl_nil, xl_cons, x_idx, setL_z, setL_s, lz, ls, Option.getD_some, List.cons_append, List.nil_append]
      refine ⟨by simp [SZ], ?_⟩
      rw [kont_ret, show 510 - 255 = 255 from rfl, LG_end, EX_end]
      refine rets_many (us := [.ref hp.length, .ref (hp.length + 1), .int 255]) (t' := [.bytes G.LOG, .bytes G.EXP]) [1, 0] (by decide) rfl ?_ ?_ q
      · simp [viaV]
      · simp [OkV]
end Mine
end
section
open PySem PyProof.Rows
namespace Mine
local macro_rules | `(tactic| omega) => `(tactic| first | assumption | lia | omega +splitDisjunctions)
open P GF
noncomputable def tab (M : Nat) (f : Nat → GF) : List GF := (List.range M).map f
theorem tab_len {M : Nat} {f : Nat → GF} : (tab M f).length = M := by simp [tab]
theorem tab_get {M : Nat} {f : Nat → GF} {k : Nat} (h : k < M) : (tab M f)[k]? = some (f k) := by
  simp [tab, h]
theorem tab_getD {M : Nat} {f : Nat → GF} {k : Nat} (h : k < M) : (tab M f).getD k 0 = f k := by
  rw [List.getD_eq_getElem?_getD, tab_get h]; rfl
theorem tab_ext {M : Nat} {f g : Nat → GF} (h : ∀ j, j < M → f j = g j) : tab M f = tab M g := by
  unfold tab
  exact List.map_congr_left fun j hj => h j (by simpa using hj)
theorem tab_self (p : List GF) : tab p.length (fun j => p.getD j 0) = p := by
  apply List.ext_getElem?
  intro i
  rcases Nat.lt_or_ge i p.length with h | h
  · rw [tab_get h, getD_some h]
  · rw [List.getElem?_eq_none h, List.getElem?_eq_none (by rw [tab_len]; exact h)]
theorem eq_tab {p : List GF} {M : Nat} {f : Nat → GF} (hl : p.length = M) (h : ∀ j, j < M → p.getD j 0 = f j) : p = tab M f := by
  subst hl
  rw [← tab_ext h]; exact (tab_self p).symm
theorem tab_set {M : Nat} {f : Nat → GF} {k : Nat} {v : GF} : (tab M f).set k v = tab M (fun j => if j = k then v else f j) := by
  apply List.ext_getElem?
  intro i
  rw [List.getElem?_set]
  rcases Nat.lt_or_ge i M with h | h
  · rw [tab_get h, tab_get h, tab_len]
    by_cases hk : k = i
    · subst hk; simp [h]
    · rw [if_neg hk, if_neg (Ne.symm hk)]
  · rw [List.getElem?_eq_none (by rw [tab_len]; exact h), List.getElem?_eq_none (by rw [tab_len]; exact h)]
    split
    · rw [if_neg (by rw [tab_len]; omega)]
    · rfl
theorem zer_tab (M : Nat) : zer M = tab M fun _ => 0 := by simp [zer, tab, List.map_const']
theorem range_getD {α : Type} (g : GF → α) (p : List GF) : (List.range p.length).map (fun i => g (p.getD i 0)) = p.map g := by
  conv => rhs; rw [← tab_self p]
  unfold tab
  rw [List.map_map]; rfl
theorem bytes_zero (M : Nat) : O.bytes (List.replicate M 0) = B (zer M) := by
  unfold B zer; rw [List.map_replicate]; rfl
theorem ba_int {hp : List O} {M : Nat} {Q : QE} (hs : M ≤ SZ) (q : Q (.ref hp.length) (hp ++ [B (zer M)])) : wBI .bytearray [.int (M : Int)] hp Q := by
  rw [← bytes_zero] at q
  exact mk_ba rfl hs q
theorem ba_intA {hp t : List O} {M : Nat} {Q : QE} (k : Nat) (hk : t.length = k) (hs : M ≤ SZ) (q : Q (.ref (hp.length + k)) (hp ++ (t ++ [B (zer M)]))) : wBI .bytearray [.int (M : Int)] (hp ++ t) Q :=
  ba_int hs (by rw [ap_len hk, List.append_assoc]; exact q)
theorem ba_P {hp : List O} {a : Nat} {o : O} {p : List GF} {Q : QE} (h : hp[a]? = some o) (ho : IsP o p) (hs : p.length ≤ SZ) (q : Q (.ref hp.length) (hp ++ [B p])) : wBI .bytearray [.ref a] hp Q := by
  rcases ho with rfl | rfl
  · unfold wBI
    dsimp only
    rw [h]
    exact ⟨Nat.le_trans (Nat.le_of_eq (List.length_map _)) hs, q⟩
  · unfold wBI
    dsimp only
    rw [h]
    refine ⟨Nat.le_trans (Nat.le_of_eq (List.length_map _)) hs, fun x hx => ?_, ?_⟩
    · obtain ⟨a, _, rfl⟩ := List.mem_map.mp hx
      have := a.val_lt
      exact ⟨Int.natCast_nonneg _, Int.ofNat_lt.mpr this⟩
    · rw [List.map_map]
      have e : (Int.toNat ∘ fun a : GF => (a.val : Int)) = GF.val := by funext a; simp
      rw [e]; exact q
theorem ba_N {hp : List O} {a : Nat} {p : List GF} {Q : QE} (h : hp[a]? = some (Nm p)) (hs : p.length ≤ SZ) (q : Q (.ref hp.length) (hp ++ [B p])) : wBI .bytearray [.ref a] hp Q := ba_P h (.inr rfl) hs q
theorem ba_NA {hp t : List O} {a : Nat} {p : List GF} {Q : QE} (k : Nat) (hk : t.length = k) (h : (hp ++ t)[a]? = some (Nm p)) (hs : p.length ≤ SZ) (q : Q (.ref (hp.length + k)) (hp ++ (t ++ [B p]))) : wBI .bytearray [.ref a] (hp ++ t) Q :=
  ba_N h hs (by rw [ap_len hk, List.append_assoc]; exact q)
theorem ba_PA {hp t : List O} {a : Nat} {o : O} {p : List GF} {Q : QE} (k : Nat) (hk : t.length = k) (h : (hp ++ t)[a]? = some o) (ho : IsP o p) (hs : p.length ≤ SZ) (q : Q (.ref (hp.length + k)) (hp ++ (t ++ [B p]))) : wBI .bytearray [.ref a] (hp ++ t) Q :=
  ba_P h ho hs (by rw [ap_len hk, List.append_assoc]; exact q)
theorem ba_IA {hp t : List O} {a : Nat} {l : List Int} {Q : QE} (k : Nat) (hk : t.length = k) (h : (hp ++ t)[a]? = some (.nums l)) (hs : l.length ≤ SZ) (hb : ∀ x ∈ l, isByte x) (q : Q (.ref (hp.length + k)) (hp ++ (t ++ [.bytes (l.map Int.toNat)]))) : wBI .bytearray [.ref a] (hp ++ t) Q := by
  rw [← List.append_assoc, ← ap_len hk] at q
  unfold wBI
  dsimp only
  rw [h]; exact ⟨hs, hb, q⟩
theorem isB (p : List GF) : IsP (B p) p := .inl rfl
theorem isN (p : List GF) : IsP (Nm p) p := .inr rfl
theorem nums_one (x : GF) : O.nums [(x.val : Int)] = Nm [x] := rfl
theorem nums_1 : O.nums [1] = Nm [1] := rfl
theorem nums_0 : O.nums [0] = Nm [0] := rfl
theorem nums_pair (x y : GF) : O.nums [(x.val : Int), (y.val : Int)] = Nm [x, y] := rfl
theorem range_nm (M : Nat) (f : Nat → GF) : O.nums ((List.range M).map fun i => ((f i).val : Int)) = Nm (tab M f) := by
  unfold Nm tab; rw [List.map_map]; rfl
theorem bi_max2 {hp : List O} {i j : Int} {Q : QE} : wBI .max [.int i, .int j] hp Q = Q (.int (max i j)) hp := rfl
inductive scaleS (us : List V) (hp : List O) (Q : Res → List O → Prop) : Prop
  | mk  a o p x (h0 : hp[a]? = some o) (h1 : IsP o p) (h2 : p.length ≤ SZ) (h3 : us = [.ref a, .int (GF.val x : Int)]) (h4 : Tab hp) (h5 : Q (.one (.ref hp.length)) (hp ++ [B (scl x p)]))
theorem scl_tab (x : GF) (p : List GF) : tab p.length (fun i => p.getD i 0 * x) = scl x p := by
  unfold tab scl; exact range_getD (· * x) p
theorem tr_scale {Gf : Fns} {C : CallForm} (hG : Gf[4]? = some (C, mulS)) {us hp Q} (h : scaleS us hp Q) : wSL Gf GS hp.length b_gf_poly_scale ⟨fun i => us[i]?, hp⟩ (RetsV hp.length Q) := by
  obtain ⟨a, o, p, x, ha, ho, hs, rfl, T, q⟩ := h
  rw [L_pad _ 1]
  unfold b_gf_poly_scale
  simp only [sl_cons, s_ret, x_bi, xl_nil, xl_cons, x_compR, x_L, List.map_cons, List.map_nil, rep_s, rep_z, List.cons_append, List.nil_append, lz, ls, Option.getD_some]
  refine len_P ha ho hs (compR_intro (fun i => ((p.getD i 0 * x).val : Int)) hs (fun i hi => ?_) ?_)
  · refine ax_L ?_
    simp only [x_call, xl_cons, xl_nil, x_idx, x_L, setL_z, setL_s, lz, ls, Option.getD_some, List.cons_append, List.nil_append]
    refine idx_P ha ho hi hs ?_
    exact callK_P hG ⟨_, _, rfl, T, rfl, rfl⟩
  · rw [range_nm, scl_tab]
    refine ba_NA 1 rfl (by rw [get_new0]; rfl) (by rw [scl, List.length_map]; exact hs) ?_
    simp only [kont_ret, List.cons_append, List.nil_append]
    exact rets_ref (i := 1) rfl q
theorem shr_get (p : List GF) (k j : Nat) : (zer k ++ p).getD j 0 = if j < k then 0 else p.getD (j - k) 0 := by
  rw [List.getD_eq_getElem?_getD]
  by_cases h : j < k
  · rw [if_pos h, List.getElem?_append_left (by simpa [zer] using h)]
    simp [zer, h]
  · rw [if_neg h, List.getElem?_append_right (by simp [zer]; omega), List.getD_eq_getElem?_getD]
    simp [zer]
theorem zad_tab {p q : List GF} (h : p.length = q.length) : zad p q = tab p.length fun j => p.getD j 0 + q.getD j 0 := by
  refine eq_tab (by simp [zad, h]) fun j hj => ?_
  unfold zad
  rw [List.getD_eq_getElem?_getD, List.getElem?_zipWith, getD_some hj, getD_some (by omega)]
  rfl
inductive addS (us : List V) (hp : List O) (Q : Res → List O → Prop) : Prop
  | mk  a b o p q (h0 : hp[a]? = some (B p)) (h1 : hp[b]? = some o) (h2 : IsP o q) (h3 : p.length ≤ SZ) (h4 : q.length ≤ SZ) (h5 : us = [.ref a, .ref b]) (h6 : Q (.one (.ref hp.length)) (hp ++ [B (padd p q)]))
theorem tr_add {Gf : Fns} {gs : List V} {us hp Q} (h : addS us hp Q) : wSL Gf gs hp.length b_gf_poly_add ⟨fun i => us[i]?, hp⟩ (RetsV hp.length Q) := by
  obtain ⟨a, b, o, p, q, ha, hb, ho, hs, hs', rfl, hq⟩ := h
  have la := lt_of_get ha
  have lb := lt_of_get hb
  have hM : max p.length q.length ≤ SZ := by omega
  generalize hMM : max p.length q.length = M at hM
  have hpM : p.length ≤ M := by omega
  have hqM : q.length ≤ M := by omega
  rw [L_pad _ 2]
  unfold b_gf_poly_add
  simp only [sl_cons, s_assign, x_bi, xl_nil, xl_cons, x_L, List.map_cons, List.map_nil, rep_s, rep_z, List.cons_append, List.nil_append, lz, ls, Option.getD_some]
  refine len_P ha (isB p) hs (len_P hb ho hs' ?_)
  have e : max ((p.length : Nat) : Int) ((q.length : Nat) : Int) = ((M : Nat) : Int) := by omega
  rw [bi_max2, e]
  refine ba_int hM (kn_L ?_)
  simp only [kont_next, sl_cons, s_setS, x_bin, x_bi, xl_nil, xl_cons, x_L, setL_z, setL_s, lz, ls, Option.getD_some, List.cons_append, List.nil_append]
  refine len_P (by rw [get_new0]; rfl) (isB _) (by simp [zer, hM]) (len_P (get_app ha) (isB p) hs ?_)
  rw [b_sub]
  refine len_P (by rw [get_new0]; rfl) (isB _) (by simp [zer, hM]) ?_
  have e2 : (((zer M).length : Nat) : Int) - ((p.length : Nat) : Int) = ((M - p.length : Nat) : Int) := by simp [zer]; omega
  have e3 : (zer M).length = M := by simp [zer]
  rw [e2, e3]
  refine setS_int (Nat.le_refl _) (by omega) (by rw [get_new0]; rfl) (get_app ha) (by simp [zer, hM]) (by simp; omega) (by simp [zer]) ?_
  have e4 : List.take (M - p.length) ((zer M).map GF.val) ++ p.map GF.val ++ List.drop M ((zer M).map GF.val) = (zer (M - p.length) ++ p).map GF.val := by
    rw [List.drop_eq_nil_of_le (by simp [zer]), List.append_nil, List.map_append, ← List.map_take]
    congr 2
    simp [zer, List.take_replicate]
  rw [e4, set_new0, List.set_cons_zero]
  change Kont Gf gs hp.length _ _ Fl.next ⟨_, hp ++ [B (zer (M - p.length) ++ p)]⟩
  simp only [kont_next, sl_cons, s_forR, x_bin, x_bi, x_int, xl_nil, xl_cons, x_L, setL_z, setL_s, lz, ls, Option.getD_some, List.cons_append, List.nil_append]
  refine len_P (get_app hb) ho hs' ?_
  refine for_zero hs' (fun i st => st = ⟨L [some (.ref a), some (.ref b), some (.ref hp.length), none], hp ++ [B (tab M fun j => (zer (M - p.length) ++ p).getD j 0 + if M - q.length ≤ j ∧ j < M - q.length + i then q.getD (j - (M - q.length)) 0 else 0)]⟩) ?_ ?_ ?_
  · congr 3
    unfold B
    congr 2
    refine eq_tab (by simp [zer]; omega) fun j hj => ?_
    rw [if_neg (by omega)]; grind
  · rintro i st rfl hi
    refine cutK fun KK hKK => as_L ?_
    simp only [kont_next, sl_cons, s_augI, x_bin, x_bi, x_idx, x_int, xl_nil, xl_cons, x_L, setL_z, setL_s, lz, ls, Option.getD_some, List.cons_append, List.nil_append]
    refine len_P (by rw [get_new0]; rfl) (isB _) (by rw [tab_len]; exact hM) ?_
    rw [b_add]
    refine len_P (get_app hb) ho hs' ?_
    rw [b_sub, tab_len]
    have e5 : (i : Int) + (M : Nat) - (q.length : Nat) = ((M - q.length + i : Nat) : Int) := by omega
    rw [e5]
    have hk : M - q.length + i < M := by omega
    refine aug_intro (Nat.le_refl _) (by rw [get_new0]; rfl) (x := GF.val _) (by rw [List.getElem?_map, tab_get hk]; rfl) (by rw [List.length_map, tab_len]; exact hM) ?_
    simp only [x_idx, x_L, setL_z, setL_s, lz, ls, Option.getD_some, List.cons_append, List.nil_append]
    refine idx_P (get_app hb) ho hi hs' ?_
    refine ⟨Int.natCast_nonneg _, ?_, by rw [get_new0]; rfl, ?_⟩
    · rw [Int.toNat_natCast]; exact G.xor_lt (GF.val_lt _) (GF.val_lt _)
    · rw [Int.toNat_natCast, ← val_add, set_new0, List.set_cons_zero, kont_next, sl_nil]
      rw [← List.map_set, tab_set]
      refine hKK _ <| turn (t' := [B _]) (vs := [some (.ref a), some (.ref b), some (.ref hp.length), none]) [0] (by decide) rfl ?_ ?_
      · (repeat' first | exact trivial | refine via_none ?_ | refine via_int rfl ?_ | refine via_bool rfl ?_ | refine via_non rfl ?_ | refine via_old (by omega) rfl ?_ | refine via_new0 rfl rfl ?_ | refine via_new rfl rfl ?_)
      · congr 3
        unfold B
        congr 2
        refine tab_ext fun j hj => ?_
        by_cases h1 : j = M - q.length + i
        · subst h1
          rw [if_pos rfl, if_neg (by omega), if_pos (by omega), Nat.add_sub_cancel_left]
          grind
        · rw [if_neg h1]
          congr 1
          by_cases h2 : M - q.length ≤ j ∧ j < M - q.length + i
          · rw [if_pos h2, if_pos (by omega)]
          · rw [if_neg h2, if_neg (by omega)]
  · rintro st rfl
    simp only [kont_next, sl_cons, s_ret, kont_ret, x_L, lz, ls, Option.getD_some, List.cons_append, List.nil_append]
    refine rets_ref (i := 0) rfl ?_
    have e6 : padd p q = tab M fun j => (zer (M - p.length) ++ p).getD j 0 + if M - q.length ≤ j ∧ j < M - q.length + q.length then q.getD (j - (M - q.length)) 0 else 0 := by
      unfold padd
      rw [hMM, zad_tab (by simp [zer]; omega), show (zer (M - p.length) ++ p).length = M by simp [zer]; omega]
      refine tab_ext fun j hj => ?_
      congr 1
      rw [shr_get]
      by_cases h : j < M - q.length
      · rw [if_pos h, if_neg (by omega)]
      · rw [if_neg h, if_pos (by omega)]
    rw [e6] at hq
    exact hq
end Mine
end
section
open PySem PyProof.Rows
namespace Mine
local macro_rules | `(tactic| omega) => `(tactic| first | assumption | lia | omega +splitDisjunctions)
open P GF
theorem pw_log_mul {x y : GF} (hx : x ≠ 0) (hy : y ≠ 0) : G.pw (x.log + y.log) = (x * y).val := by
  have e : x * y = al (x.log + y.log) := by rw [← al_mul, al_log hx, al_log hy]
  rw [e]; rfl
inductive polyMulS (us : List V) (hp : List O) (Q : Res → List O → Prop) : Prop
  | mk  a b o o' p q (h0 : hp[a]? = some o) (h1 : IsP o p) (h2 : hp[b]? = some o') (h3 : IsP o' q) (h4 : 1 ≤ p.length) (h5 : 1 ≤ q.length) (h6 : p.length + q.length ≤ SZ) (h7 : us = [.ref a, .ref b]) (h8 : Tab hp) (h9 : Q (.one (.ref hp.length)) (hp ++ [B (pm p q)]))
noncomputable def mq (p q : List GF) (n j : Nat) : GF := q.getD j 0 * (if j ≤ n then p.getD (n - j) 0 else 0)
theorem tr_polyMul {Gf : Fns} {us hp Q} (h : polyMulS us hp Q) : wSL Gf GS hp.length b_gf_poly_mul ⟨fun i => us[i]?, hp⟩ (RetsV hp.length Q) := by
  obtain ⟨a, b, o, o', p, q, ha, ho, hb, ho', hp1, hq1, hs, rfl, T, hq⟩ := h
  have la := lt_of_get ha
  have lb := lt_of_get hb
  have hsp : p.length ≤ SZ := by omega
  have hsq : q.length ≤ SZ := by omega
  rw [L_pad _ 7]
  unfold b_gf_poly_mul
  simp only [sl_cons, s_assign, x_bin, x_bi, x_int, xl_nil, xl_cons, x_L, List.map_cons, List.map_nil, rep_s, rep_z, List.cons_append, List.nil_append, lz, ls, Option.getD_some]
  refine len_P ha ho hsp (len_P hb ho' hsq ?_)
  rw [b_add, b_sub]
  have e : (p.length : Int) + (q.length : Nat) - 1 = ((p.length + q.length - 1 : Nat) : Int) := by omega
  rw [e]
  generalize hM : p.length + q.length - 1 = M
  have hMs : M ≤ SZ := by omega
  refine ba_int hMs ?_
  refine kn_L ?_
  simp only [kontL, sl_cons, s_assignC, x_compR, x_bi, xl_nil, xl_cons, x_L, setL_z, setL_s, lz, ls, Option.getD_some, List.cons_append, List.nil_append, List.length_cons, List.length_nil, Nat.reduceAdd]
  refine len_P (get_app ha) ho hsp (compR_intro (fun i => (G.lg (p.getD i 0).val : Nat)) hsp (fun i hi => ?_) ?_)
  · refine ax_L ?_
    simp only [x_idx, x_g0, x_L, setL_z, setL_s, lz, ls, Option.getD_some, List.cons_append, List.nil_append, List.length_cons, List.length_nil, Nat.reduceAdd]
    refine idx_P (get_app ha) ho hi hsp ?_
    refine idx_log T.app (GF.val_lt _) ?_
    exact ⟨rfl, rfl⟩
  refine kn_A _ rfl ?_
  simp only [kontL, sl_cons, s_forR, x_bi, x_int, xl_nil, xl_cons, x_L, setL_z, setL_s, lz, ls, Option.getD_some, List.cons_append, List.nil_append, List.length_cons, List.length_nil, Nat.reduceAdd]
  refine len_P (get_app hb) ho' hsq ?_
  refine for_zero hsq (fun j st => st = ⟨L [some (.ref a), some (.ref b), some (.ref hp.length), some (.ref (hp.length + 1)), none, none, none, none, none], hp ++ [B (tab M fun n => sumN j (mq p q n)), .nums ((List.range p.length).map fun i => (G.lg (p.getD i 0).val : Int))]⟩) ?_ ?_ ?_
  · rw [zer_tab]; rfl
  · rintro j st rfl hj
    refine cutK fun KK hKK => as_L ?_
    simp only [sl_cons, kontL, s_assign, s_iff, x_idx, x_L, setL_z, setL_s, lz, ls, Option.getD_some, List.cons_append, List.nil_append, List.length_cons, List.length_nil, Nat.reduceAdd]
    refine idx_P (get_app hb) ho' hj hsq ?_
    refine kn_L ?_
    simp only [setL_z, setL_s, sl_cons, sl_nil, kontL, s_iff, s_assign, s_forR, k_cmp, x_int, x_L, lz, ls, Option.getD_some, c_ne, t_bool, List.cons_append, List.nil_append, List.length_cons, List.length_nil, Nat.reduceAdd]
    by_cases hz : q.getD j 0 = 0
    · have ez : decide (((q.getD j 0).val : Int) ≠ 0) = false := by rw [hz]; rfl
      rw [ez]
      refine hKK _ <| turn (t' := [B (tab M fun n => sumN (j + 1) (mq p q n)), _]) (vs := [some (.ref a), some (.ref b), some (.ref hp.length), some (.ref (hp.length + 1)), none, none, none, none, none]) [0, 1] (by decide) ?_ ?_ rfl
      · have : (tab M fun n => sumN j (mq p q n)) = tab M fun n => sumN (j + 1) (mq p q n) := tab_ext fun n _ => by
          rw [sumN]
          unfold mq
          rw [hz]; grind
        rw [← this]; rfl
      · (repeat' first | exact trivial | refine via_none ?_ | refine via_int rfl ?_ | refine via_bool rfl ?_ | refine via_non rfl ?_ | refine via_old (by omega) rfl ?_ | refine via_new0 rfl rfl ?_ | refine via_new rfl rfl ?_)
    · have ez : decide (((q.getD j 0).val : Int) ≠ 0) = true := by
        rw [decide_eq_true_iff]
        exact fun h => hz (val_eq_zero.mp h)
      rw [ez]
      simp only [x_idx, x_g0, x_L, lz, ls, Option.getD_some, List.cons_append, List.nil_append, List.length_cons, List.length_nil, Nat.reduceAdd]
      refine idx_log T.app (GF.val_lt _) ?_
      refine kn_L ?_
      simp only [setL_z, setL_s, sl_cons, sl_nil, kontL, s_forR, x_bi, x_int, xl_nil, xl_cons, x_L, lz, ls, Option.getD_some, List.cons_append, List.nil_append, List.length_cons, List.length_nil, Nat.reduceAdd]
      refine len_P (get_app ha) ho hsp ?_
      refine for_zero hsp (fun i st => ∃ x5 x7, st = ⟨L [some (.ref a), some (.ref b), some (.ref hp.length), some (.ref (hp.length + 1)), some (.int (j : Int)), x5, some (.int (G.lg (q.getD j 0).val : Nat)), x7, none],
        hp ++ [B (tab M fun n => sumN j (mq p q n) + if j ≤ n ∧ n - j < i then q.getD j 0 * p.getD (n - j) 0 else 0), .nums ((List.range p.length).map fun i => (G.lg (p.getD i 0).val : Int))]⟩) ⟨some (.int ((q.getD j 0).val : Int)), none, ?_⟩ ?_ ?_
      · congr 3
        unfold B
        congr 2
        exact tab_ext fun n _ => by rw [if_neg (by omega)]; grind
      · rintro i st ⟨x5, x7, rfl⟩ hi
        refine cutK fun KI hKI => as_L ?_
        simp only [setL_z, setL_s, sl_cons, sl_nil, kontL, s_iff, k_cmp, x_idx, x_int, x_L, lz, ls, Option.getD_some, List.cons_append, List.nil_append, List.length_cons, List.length_nil, Nat.reduceAdd]
        refine idx_P (get_app ha) ho hi hsp ?_
        simp only [c_ne, t_bool]
        by_cases hy : p.getD i 0 = 0
        · have ey : decide (((p.getD i 0).val : Int) ≠ 0) = false := by rw [hy]; rfl
          rw [ey]
          refine hKI _ <| turn (t' := [B (tab M fun n => sumN j (mq p q n) + if j ≤ n ∧ n - j < i + 1 then q.getD j 0 * p.getD (n - j) 0 else 0), _]) (vs := [some (.ref a), some (.ref b), some (.ref hp.length), some (.ref (hp.length + 1)), some (.int (j : Int)), none, some (.int (G.lg (q.getD j 0).val : Nat)), none, none]) [0, 1] (by decide) ?_ ?_ ⟨_, _, rfl⟩
          · have : (tab M fun n => sumN j (mq p q n) + if j ≤ n ∧ n - j < i then q.getD j 0 * p.getD (n - j) 0 else 0) = tab M fun n => sumN j (mq p q n) + if j ≤ n ∧ n - j < i + 1 then q.getD j 0 * p.getD (n - j) 0 else 0 := tab_ext fun n _ => by
              congr 1
              by_cases h1 : j ≤ n ∧ n - j < i
              · rw [if_pos h1, if_pos (by omega)]
              · rw [if_neg h1]
                by_cases h2 : j ≤ n ∧ n - j < i + 1
                · rw [if_pos h2, show n - j = i by omega, hy]; grind
                · rw [if_neg h2]
            rw [← this]; rfl
          · (repeat' first | exact trivial | refine via_none ?_ | refine via_int rfl ?_ | refine via_bool rfl ?_ | refine via_non rfl ?_ | refine via_old (by omega) rfl ?_ | refine via_new0 rfl rfl ?_ | refine via_new rfl rfl ?_)
        · have ey : decide (((p.getD i 0).val : Int) ≠ 0) = true := by
            rw [decide_eq_true_iff]
            exact fun h => hy (val_eq_zero.mp h)
          rw [ey]
          simp only [sl_cons, sl_nil, kontL, s_augI, x_bin, x_L, lz, ls, Option.getD_some, b_add, List.cons_append, List.nil_append, List.length_cons, List.length_nil, Nat.reduceAdd]
          have hk : i + j < M := by omega
          rw [← Int.natCast_add]
          refine aug_intro (Nat.le_refl _) (by rw [get_new0]; rfl) (x := GF.val _) (by rw [List.getElem?_map, tab_get hk]; rfl) (by rw [List.length_map, tab_len]; exact hMs) ?_
          simp only [x_idx, x_bin, x_g1, x_L, lz, ls, Option.getD_some, List.cons_append, List.nil_append, List.length_cons, List.length_nil, Nat.reduceAdd]
          refine idx_nums (x := ((G.lg (p.getD i 0).val : Nat) : Int)) (by rw [get_new]; rfl) (by simp [hi]) (by simpa using hsp) ?_
          rw [b_add, ← Int.natCast_add]
          have l1 := log_lt (p.getD i 0)
          have l2 := log_lt (q.getD j 0)
          refine idx_exp T.app (show (p.getD i 0).log + (q.getD j 0).log < 510 by omega) ?_
          rw [show G.lg (p.getD i 0).val = (p.getD i 0).log from rfl, show G.lg (q.getD j 0).val = (q.getD j 0).log from rfl, pw_log_mul hy hz]
          refine ⟨Int.natCast_nonneg _, ?_, by rw [get_new0]; rfl, ?_⟩
          · rw [Int.toNat_natCast]; exact G.xor_lt (GF.val_lt _) (GF.val_lt _)
          · rw [Int.toNat_natCast, ← val_add, set_new0, List.set_cons_zero, kont_next, sl_nil, kont_next, sl_nil]
            rw [← List.map_set, tab_set]
            refine hKI _ <| turn (t' := [B _, _]) (vs := [some (.ref a), some (.ref b), some (.ref hp.length), some (.ref (hp.length + 1)), some (.int (j : Int)), none, some (.int (G.lg (q.getD j 0).val : Nat)), none, none]) [0, 1] (by decide) rfl ?_ ⟨none, none, ?_⟩
            · (repeat' first | exact trivial | refine via_none ?_ | refine via_int rfl ?_ | refine via_bool rfl ?_ | refine via_non rfl ?_ | refine via_old (by omega) rfl ?_ | refine via_new0 rfl rfl ?_ | refine via_new rfl rfl ?_)
            · congr 3
              unfold B
              congr 2
              refine tab_ext fun n hn => ?_
              by_cases h1 : n = i + j
              · subst h1
                rw [if_pos rfl, if_neg (by omega), if_pos (by omega), Nat.add_sub_cancel]
                grind
              · rw [if_neg h1]
                congr 1
                by_cases h2 : j ≤ n ∧ n - j < i
                · rw [if_pos h2, if_pos (by omega)]
                · rw [if_neg h2, if_neg (by omega)]
      · rintro st ⟨x5, x7, rfl⟩
        rw [kont_next, sl_nil, kont_next, sl_nil]
        refine hKK _ <| turn (t' := [B (tab M fun n => sumN (j + 1) (mq p q n)), _]) (vs := [some (.ref a), some (.ref b), some (.ref hp.length), some (.ref (hp.length + 1)), none, none, none, none, none]) [0, 1] (by decide) ?_ ?_ rfl
        · have : (tab M fun n => sumN j (mq p q n) + if j ≤ n ∧ n - j < p.length then q.getD j 0 * p.getD (n - j) 0 else 0) = tab M fun n => sumN (j + 1) (mq p q n) := tab_ext fun n _ => by
            rw [sumN]
            congr 1
            unfold mq
            by_cases h1 : j ≤ n
            · rw [if_pos h1]
              by_cases h2 : n - j < p.length
              · rw [if_pos ⟨h1, h2⟩]
              · rw [if_neg (by omega), getD_big (p := p) (k := n - j) (by omega)]; grind
            · rw [if_neg h1, if_neg (by omega)]; grind
          rw [← this]; rfl
        · (repeat' first | exact trivial | refine via_none ?_ | refine via_int rfl ?_ | refine via_bool rfl ?_ | refine via_non rfl ?_ | refine via_old (by omega) rfl ?_ | refine via_new0 rfl rfl ?_ | refine via_new rfl rfl ?_)
  · rintro st rfl
    simp only [kontL, sl_cons, s_ret, kont_ret, x_L, lz, ls, Option.getD_some, List.cons_append, List.nil_append, List.length_cons, List.length_nil, Nat.reduceAdd]
    refine rets_ref (i := 0) rfl ?_
    have : (tab M fun n => sumN q.length (mq p q n)) = pm p q := by
      unfold pm tab; rw [hM]; rfl
    rw [this]; exact hq
inductive evalS (us : List V) (hp : List O) (Q : Res → List O → Prop) : Prop
  | mk  a o p x (h0 : hp[a]? = some o) (h1 : IsP o p) (h2 : 1 ≤ p.length) (h3 : p.length ≤ SZ) (h4 : us = [.ref a, .int (GF.val x : Int)]) (h5 : Tab hp) (h6 : Q (.one (.int (ev p x).val)) hp)
theorem ev_take (p : List GF) (x : GF) {i : Nat} (h : i < p.length) : ev (p.take (i + 1)) x = ev (p.take i) x * x + p.getD i 0 := by
  rw [List.take_add_one, getD_some h]
  show ev (p.take i ++ [p.getD i 0]) x = _
  rw [ev_append, ev_cons, ev_nil]
  simp only [List.length_nil, List.length_cons]
  grind
theorem tr_eval {Gf : Fns} {C : CallForm} (hG : Gf[4]? = some (C, mulS)) {us hp Q} (h : evalS us hp Q) : wSL Gf GS hp.length b_gf_poly_eval ⟨fun i => us[i]?, hp⟩ (RetsV hp.length Q) := by
  obtain ⟨a, o, p, x, ha, ho, hp1, hs, rfl, T, q⟩ := h
  have la := lt_of_get ha
  rw [L_pad _ 2]
  unfold b_gf_poly_eval
  simp only [sl_cons, s_assign, x_idx, x_int, x_L, List.map_cons, List.map_nil, rep_s, rep_z, List.cons_append, List.nil_append, lz, ls, Option.getD_some]
  refine idx_P (i := 0) ha ho hp1 hs ?_
  refine kn_L ?_
  simp only [setL_z, setL_s, kontL, sl_cons, s_forR, x_int, x_bi, xl_cons, xl_nil, x_L, lz, ls, Option.getD_some, List.cons_append, List.nil_append, List.length_cons, List.length_nil, Nat.reduceAdd]
  refine len_P ha ho hs ?_
  refine for_one hs (fun i st => ∃ v, st = ⟨L [some (.ref a), some (.int (x.val : Int)), some (.int ((ev (p.take (i + 1)) x).val : Int)), v], hp⟩) ⟨none, ?_⟩ ?_ ?_
  · rw [ev_take p x hp1, show p.take 0 = [] from rfl, ev_nil, show (0 : GF) * x + p.getD 0 0 = p.getD 0 0 by grind]
  · rintro i st ⟨v, rfl⟩ hi
    refine as_L ?_
    simp only [sl_cons, sl_nil, kontL, s_assign, x_bin, x_call, xl_cons, xl_nil, x_idx, x_L, setL_z, setL_s, lz, ls, Option.getD_some, List.cons_append, List.nil_append, List.length_cons, List.length_nil, Nat.reduceAdd]
    refine callK_P hG ⟨_, _, rfl, T, ?_⟩
    rw [oneK]
    refine idx_P ha ho hi hs (b_xorG ?_)
    refine turn0 (vs := [some (.ref a), some (.int (x.val : Int)), some (.int ((ev (p.take (i + 1 + 1)) x).val : Int)), none]) ?_ ⟨_, rfl⟩
    rw [ev_take p x hi]
    (repeat' first | exact trivial | refine via_none ?_ | refine via_int rfl ?_ | refine via_bool rfl ?_ | refine via_non rfl ?_ | refine via_old (by omega) rfl ?_ | refine via_new0 rfl rfl ?_ | refine via_new rfl rfl ?_)
  · rintro st ⟨v, rfl⟩
    simp only [kontL, sl_cons, s_ret, kont_ret, x_L, lz, ls, Option.getD_some, List.cons_append, List.nil_append, List.length_cons, List.length_nil, Nat.reduceAdd]
    rw [Nat.sub_add_cancel hp1, List.take_length]
    exact rets_int0 q
end Mine
end
section
open PySem PyProof.Rows
namespace Mine
local macro_rules | `(tactic| omega) => `(tactic| first | assumption | lia | omega +splitDisjunctions)
open P GF
theorem slc_B {hp : List O} {a : Nat} {p : List GF} {lo hi : V} {l h : Option Int} {Q : QE} (e : hp[a]? = some (B p)) (hl : lo.bound = some l) (hh : hi.bound = some h) (hs : p.length ≤ SZ) (q : Q (.ref hp.length) (hp ++ [B (sliceOf p l h)])) : wSlc (.ref a) lo hi .none hp Q := by
  unfold wSlc
  dsimp only
  rw [hl, hh, e]
  refine ⟨Nat.le_trans (Nat.le_of_eq (List.length_map _)) hs, ?_⟩
  have : sliceOf (p.map GF.val) l h = (sliceOf p l h).map GF.val := by
    unfold sliceOf; rw [List.length_map, ← List.map_drop, ← List.map_take]
  rw [this]; exact q
theorem slc_N {hp : List O} {a : Nat} {p : List Int} {lo hi : V} {l h : Option Int} {Q : QE} (e : hp[a]? = some (.nums p)) (hl : lo.bound = some l) (hh : hi.bound = some h) (hs : p.length ≤ SZ) (q : Q (.ref hp.length) (hp ++ [.nums (sliceOf p l h)])) : wSlc (.ref a) lo hi .none hp Q := by
  unfold wSlc
  dsimp only
  rw [hl, hh, e]
  exact ⟨hs, q⟩
theorem slc_rev {hp : List O} {a : Nat} {o : O} {p : List GF} {Q : QE} (e : hp[a]? = some o) (ho : IsP o p) (hs : p.length ≤ SZ) (q : ∀ o', IsP o' p.reverse → Q (.ref hp.length) (hp ++ [o'])) : wSlc (.ref a) .none .none (.int (-1)) hp Q := by
  rcases ho with rfl | rfl
  · unfold wSlc
    dsimp only [V.bound]
    rw [e]
    refine ⟨Nat.le_trans (Nat.le_of_eq (List.length_map _)) hs, q _ (.inl ?_)⟩
    rw [← List.map_reverse]; rfl
  · unfold wSlc
    dsimp only [V.bound]
    rw [e]
    refine ⟨Nat.le_trans (Nat.le_of_eq (List.length_map _)) hs, q _ (.inr ?_)⟩
    rw [← List.map_reverse]; rfl
theorem slc_revB {hp : List O} {a : Nat} {p : List GF} {Q : QE} (e : hp[a]? = some (B p)) (hs : p.length ≤ SZ) (q : Q (.ref hp.length) (hp ++ [B p.reverse])) : wSlc (.ref a) .none .none (.int (-1)) hp Q := by
  unfold wSlc
  dsimp only [V.bound]
  rw [e]
  exact ⟨Nat.le_trans (Nat.le_of_eq (List.length_map _)) hs, by rw [← List.map_reverse]; exact q⟩
theorem slc_revN {hp : List O} {a : Nat} {p : List Int} {Q : QE} (e : hp[a]? = some (.nums p)) (hs : p.length ≤ SZ) (q : Q (.ref hp.length) (hp ++ [.nums p.reverse])) : wSlc (.ref a) .none .none (.int (-1)) hp Q := by
  unfold wSlc
  dsimp only [V.bound]
  rw [e]
  exact ⟨hs, q⟩
theorem slc_BA {hp t : List O} {a : Nat} {p : List GF} {lo hi : V} {l h : Option Int} {Q : QE} (k : Nat) (hk : t.length = k) (e : (hp ++ t)[a]? = some (B p)) (hl : lo.bound = some l) (hh : hi.bound = some h) (hs : p.length ≤ SZ) (q : Q (.ref (hp.length + k)) (hp ++ (t ++ [B (sliceOf p l h)]))) : wSlc (.ref a) lo hi .none (hp ++ t) Q :=
  slc_B e hl hh hs (by rw [ap_len hk, List.append_assoc]; exact q)
theorem slc_NA {hp t : List O} {a : Nat} {p : List Int} {lo hi : V} {l h : Option Int} {Q : QE} (k : Nat) (hk : t.length = k) (e : (hp ++ t)[a]? = some (.nums p)) (hl : lo.bound = some l) (hh : hi.bound = some h) (hs : p.length ≤ SZ) (q : Q (.ref (hp.length + k)) (hp ++ (t ++ [.nums (sliceOf p l h)]))) : wSlc (.ref a) lo hi .none (hp ++ t) Q :=
  slc_N e hl hh hs (by rw [ap_len hk, List.append_assoc]; exact q)
theorem slc_revA {hp t : List O} {a : Nat} {o : O} {p : List GF} {Q : QE} (k : Nat) (hk : t.length = k) (e : (hp ++ t)[a]? = some o) (ho : IsP o p) (hs : p.length ≤ SZ) (q : ∀ o', IsP o' p.reverse → Q (.ref (hp.length + k)) (hp ++ (t ++ [o']))) : wSlc (.ref a) .none .none (.int (-1)) (hp ++ t) Q :=
  slc_rev e ho hs fun o' h => by rw [ap_len hk, List.append_assoc]; exact q o' h
theorem b_catNA {a b : Nat} {x y : List Int} {hp t : List O} {Q : QE} (k : Nat) (hk : t.length = k) (h1 : (hp ++ t)[a]? = some (.nums x)) (h2 : (hp ++ t)[b]? = some (.nums y)) (hs : x.length + y.length ≤ SZ) (q : Q (.ref (hp.length + k)) (hp ++ (t ++ [.nums (x ++ y)]))) : wBin .Add (.ref a) (.ref b) (hp ++ t) Q :=
  b_catN h1 h2 hs (by rw [ap_len hk, List.append_assoc]; exact q)
theorem b_catBA {a b : Nat} {x y : List Nat} {hp t : List O} {Q : QE} (k : Nat) (hk : t.length = k) (h1 : (hp ++ t)[a]? = some (.bytes x)) (h2 : (hp ++ t)[b]? = some (.bytes y)) (hs : x.length + y.length ≤ SZ) (q : Q (.ref (hp.length + k)) (hp ++ (t ++ [.bytes (x ++ y)]))) : wBin .Add (.ref a) (.ref b) (hp ++ t) Q :=
  b_catB h1 h2 hs (by rw [ap_len hk, List.append_assoc]; exact q)
theorem slice_to {α : Type} (p : List α) {d : Nat} (hd : 1 ≤ d) : sliceOf p none (some (-(d : Int))) = p.take (p.length - d) := by
  simp only [sliceOf, Option.elim, clipAt_neg _ _ hd, List.drop_zero, Nat.sub_zero]
theorem slice_from {α : Type} (p : List α) {d : Nat} (hd : 1 ≤ d) : sliceOf p (some (-(d : Int))) none = p.drop (p.length - d) := by
  simp only [sliceOf, Option.elim, clipAt_neg _ _ hd]
  rw [List.take_of_length_le (by simp)]
theorem slice_fromN {α : Type} (p : List α) (d : Nat) : sliceOf p (some (d : Int)) none = p.drop d := by
  simp only [sliceOf, Option.elim, clipAt_nat]
  rw [List.take_of_length_le (by simp)]
  rcases Nat.lt_or_ge d p.length with h | h
  · rw [Nat.min_eq_left (by omega)]
  · rw [Nat.min_eq_right h, List.drop_eq_nil_of_le (Nat.le_refl _), List.drop_eq_nil_of_le h]
theorem slice_toN {α : Type} (p : List α) {d : Nat} (h : d ≤ p.length) : sliceOf p none (some (d : Int)) = p.take d := by
  simp only [sliceOf, Option.elim, clipAt_nat, List.drop_zero, Nat.sub_zero, Nat.min_eq_left h]
inductive polyDivS (us : List V) (hp : List O) (Q : Res → List O → Prop) : Prop
  | mk  a b p d (h0 : hp[a]? = some (B p)) (h1 : hp[b]? = some (Nm (1 :: zer d))) (h2 : 1 ≤ d) (h3 : d ≤ p.length) (h4 : p.length < SZ) (h5 : us = [.ref a, .ref b]) (h6 : Q (.many true [.ref hp.length, .ref (hp.length + 1)]) (hp ++ [B (p.take (p.length - d)), B (p.drop (p.length - d))]))
theorem len_1z (d : Nat) : ((1 : GF) :: zer d).length = d + 1 := by simp [zer]
theorem tr_polyDiv {Gf : Fns} {us hp Q} (h : polyDivS us hp Q) : wSL Gf GS hp.length b_gf_poly_div ⟨fun i => us[i]?, hp⟩ (RetsV hp.length Q) := by
  obtain ⟨a, b, p, d, ha, hb, hd, hdp, hs, rfl, q⟩ := h
  have la := lt_of_get ha
  have lb := lt_of_get hb
  have hs' : p.length ≤ SZ := by omega
  have hsb : ((1 : GF) :: zer d).length ≤ SZ := by rw [len_1z]; omega
  rw [L_pad _ 5]
  unfold b_gf_poly_div
  simp only [sl_cons, s_assign, x_bi, xl_nil, xl_cons, x_L, List.map_cons, List.map_nil, rep_s, rep_z, List.cons_append, List.nil_append, lz, ls, Option.getD_some]
  refine ba_P ha (isB p) hs' ?_
  refine kn_L ?_
  simp only [setL_z, setL_s, kontL, sl_cons, s_forR, x_int, x_bi, x_bin, xl_cons, xl_nil, x_L, lz, ls, Option.getD_some, List.cons_append, List.nil_append, List.length_cons, List.length_nil, Nat.reduceAdd]
  refine len_P (get_app ha) (isB p) hs' (len_P (get_app hb) (isN _) hsb ?_)
  rw [b_sub, b_sub, len_1z]
  have e : (p.length : Int) - (((d + 1 : Nat) : Int) - 1) = ((p.length - d : Nat) : Int) := by omega
  rw [e]
  refine for_zero (by omega) (fun i st => ∃ x3 x4 x5, st = ⟨L [some (.ref a), some (.ref b), some (.ref hp.length), x3, x4, x5, none], hp ++ [B p]⟩) ⟨none, none, none, rfl⟩ ?_ ?_
  · rintro i st ⟨x3, x4, x5, rfl⟩ hi
    refine as_L ?_
    simp only [sl_cons, sl_nil, kontL, s_assign, x_idx, x_L, setL_z, setL_s, lz, ls, Option.getD_some, List.cons_append, List.nil_append, List.length_cons, List.length_nil, Nat.reduceAdd]
    refine idx_P (by rw [get_new0]; rfl) (isB p) (by omega) hs' ?_
    refine kn_L ?_
    simp only [setL_z, setL_s, sl_cons, sl_nil, kontL, s_iff, k_cmp, x_int, x_L, lz, ls, Option.getD_some, c_ne, t_bool, List.cons_append, List.nil_append, List.length_cons, List.length_nil, Nat.reduceAdd]
    have fin : ∀ x3 x4 x5, Turn hp.length (fun st => ∃ x3 x4 x5, st = (⟨L [some (.ref a), some (.ref b), some (.ref hp.length), x3, x4, x5, none], hp ++ [B p]⟩ : St)) .next ⟨L [some (.ref a), some (.ref b), some (.ref hp.length), x3, x4, x5, none], hp ++ [B p]⟩ := fun x3 x4 x5 =>
      turn (t' := [B p]) (vs := [some (.ref a), some (.ref b), some (.ref hp.length), none, none, none, none]) [0] (by decide) rfl (by (repeat' first | exact trivial | refine via_none ?_ | refine via_int rfl ?_ | refine via_bool rfl ?_ | refine via_non rfl ?_ | refine via_old (by omega) rfl ?_ | refine via_new0 rfl rfl ?_ | refine via_new rfl rfl ?_)) ⟨_, _, _, rfl⟩
    split
    · simp only [sl_cons, sl_nil, kontL, s_forR, x_int, x_bi, xl_cons, xl_nil, x_L, lz, ls, Option.getD_some, List.cons_append, List.nil_append, List.length_cons, List.length_nil, Nat.reduceAdd]
      refine len_P (get_app hb) (isN _) hsb ?_
      refine for_one hsb (fun j st => ∃ x3 x4 x5, st = ⟨L [some (.ref a), some (.ref b), some (.ref hp.length), x3, x4, x5, none], hp ++ [B p]⟩) ⟨_, _, _, rfl⟩ ?_ ?_
      · rintro j st ⟨y3, y4, y5, rfl⟩ hj
        refine as_L ?_
        simp only [sl_cons, sl_nil, kontL, s_iff, k_cmp, x_idx, x_int, x_L, setL_z, setL_s, lz, ls, Option.getD_some, List.cons_append, List.nil_append, List.length_cons, List.length_nil, Nat.reduceAdd]
        refine idx_P (get_app hb) (isN _) hj hsb ?_
        have ez : ((1 : GF) :: zer d).getD (j + 1) 0 = 0 := by
          rw [List.getD_cons_succ, zer_tab, tab_getD (by rw [len_1z] at hj; omega)]
        rw [c_ne, ez, t_bool]
        exact fin _ _ _
      · rintro st ⟨y3, y4, y5, rfl⟩
        rw [kont_next, sl_nil, kont_next, sl_nil]
        exact fin _ _ _
    · exact fin _ _ _
  · rintro st ⟨x3, x4, x5, rfl⟩
    simp only [sl_cons, sl_nil, kontL, s_assign, s_retM, x_neg, x_bin, x_int, x_bi, x_slc, x_none, xl_cons, xl_nil, x_L, setL_z, setL_s, lz, ls, Option.getD_some, List.cons_append, List.nil_append, List.length_cons, List.length_nil, Nat.reduceAdd]
    refine len_P (get_app hb) (isN _) hsb ?_
    rw [b_sub, len_1z]
    have e : -(((d + 1 : Nat) : Int) - 1) = -(d : Int) := by omega
    refine kn_L ?_
    simp only [setL_z, setL_s, lz, ls, Option.getD_some, kontL, List.cons_append, List.nil_append, List.length_cons, List.length_nil, Nat.reduceAdd]
    rw [e]
    simp only [sl_cons, s_retM, x_slc, x_none, xl_cons, xl_nil, x_L, setL_z, setL_s, lz, ls, Option.getD_some]
    refine slc_BA 1 rfl (by rw [get_new0]; rfl) rfl rfl hs' ?_
    simp only [List.cons_append, List.nil_append]
    refine slc_BA 2 rfl (by rw [get_new0]; rfl) rfl rfl hs' ⟨show 2 ≤ SZ by decide, ?_⟩
    simp only [kont_ret, List.cons_append, List.nil_append]
    rw [slice_to p hd, slice_from p hd]
    refine rets_many (us := [.ref hp.length, .ref (hp.length + 1)]) (t' := [B _, B _]) [1, 2] (by decide) rfl ?_ ?_ q
    · simp [viaV]
    · simp [OkV]
noncomputable def gen : Nat → List GF
  | 0 => [1]
  | i + 1 => pm (gen i) [1, al i]
theorem gen_len : ∀ n, (gen n).length = n + 1
  | 0 => rfl
  | n + 1 => by rw [gen, pm_length, gen_len n]; simp
noncomputable def gv2 : V := .int ((al 1).val : Int)
theorem al1 : (2 : Int) = ((al 1).val : Int) := by decide
inductive genS (us : List V) (hp : List O) (Q : Res → List O → Prop) : Prop
  | mk (n : Nat) (h0 : n ≤ 100) (h1 : us = [.int (n : Int), .int 0, .int 2]) (h2 : Tab hp) (h3 : Q (.one (.ref hp.length)) (hp ++ [B (gen n)]))
theorem pow_gen {hp : List O} {Q : Res → List O → Prop} {n : Nat} (hn : n < 2 ^ 64) (T : Tab hp) (q : Q (.one (.int (al n).val)) hp) : powS [.int 2, .int (n : Int)] hp Q :=
  ⟨al 1, n, by simpa using hn, by rw [al1], T, by rw [powI_gen]; exact q⟩
theorem tr_gen {Gf : Fns} {C C' : CallForm} (hG : Gf[6]? = some (C, powS)) (hG' : Gf[9]? = some (C', polyMulS)) {us hp Q} (h : genS us hp Q) : wSL Gf GS hp.length b_rs_generator_poly ⟨fun i => us[i]?, hp⟩ (RetsV hp.length Q) := by
  obtain ⟨n, hn, rfl, T, q⟩ := h
  rw [L_pad _ 2]
  unfold b_rs_generator_poly
  simp only [sl_cons, s_assign, x_bi, x_int, x_list, xl_nil, xl_cons, x_L, List.map_cons, List.map_nil, rep_s, rep_z, List.cons_append, List.nil_append, lz, ls, Option.getD_some, listK1, nums_1]
  refine ⟨by decide, ba_N (p := [1]) (by rw [get_new0]; rfl) (by decide) ?_⟩
  refine kn_A _ rfl ?_
  simp only [setL_z, setL_s, kontL, sl_cons, s_forR, x_int, x_L, lz, ls, Option.getD_some, List.cons_append, List.nil_append, List.length_cons, List.length_nil, Nat.reduceAdd]
  refine for_zero (by unfold SZ; omega) (fun i st => ∃ x4 k t, st = ⟨L [some (.int (n : Int)), some (.int 0), some (.int 2), some (.ref (hp.length + k)), x4], hp ++ t⟩ ∧ t[k]? = some (B (gen i))) ⟨none, 1, _, rfl, rfl⟩ ?_ ?_
  · rintro i st ⟨x4, k, t, rfl, hk⟩ hi
    refine as_L ?_
    simp only [sl_cons, sl_nil, kontL, s_assign, x_call, x_list, x_bin, x_int, xl_cons, xl_nil, x_L, setL_z, setL_s, lz, ls, Option.getD_some, b_add, List.cons_append, List.nil_append, List.length_cons, List.length_nil, Nat.reduceAdd]
    refine callK_P hG (pow_gen (by omega) T.app ?_)
    rw [oneK, show (1 : Int) = ((1 : GF).val : Int) from rfl, listK2, nums_pair]
    refine ⟨by decide, ?_⟩
    refine callK_P hG' ⟨hp.length + k, hp.length + t.length, B (gen i), Nm [1, al i], gen i, [1, al i], ?_, isB _, ?_, isN _, ?_, by simp, ?_, ?_, T.app.app, ?_⟩
    · exact get_app (get_new.trans hk)
    · rw [← List.length_append, get_new0]; rfl
    · rw [gen_len]; omega
    · rw [gen_len]; simp [SZ]; omega
    · rw [← List.length_append]
    · rw [List.append_assoc hp t]
      refine oneK_A (t.length + 1) List.length_append (kn_L ?_)
      simp only [sl_nil, setL_z, setL_s]
      refine turn (t' := [B (gen (i + 1))]) (vs := [some (.int (n : Int)), some (.int 0), some (.int 2), some (.ref hp.length), none]) [t.length + 1] (by simp) ?_ ?_ ⟨_, 0, _, rfl, rfl⟩
      · simp [gen]
      · (repeat' first | exact trivial | refine via_none ?_ | refine via_int rfl ?_ | refine via_bool rfl ?_ | refine via_non rfl ?_ | refine via_old (by omega) rfl ?_ | refine via_new0 rfl rfl ?_ | refine via_new rfl rfl ?_)
  · rintro st ⟨x4, k, t, rfl, hk⟩
    simp only [kontL, sl_cons, s_ret, kont_ret, x_L, lz, ls, Option.getD_some, List.cons_append, List.nil_append, List.length_cons, List.length_nil, Nat.reduceAdd]
    exact rets_ref hk q
noncomputable def syn (p : List GF) (n : Nat) : List GF := tab n fun i => ev p (al i)
theorem syn_len {p : List GF} {n : Nat} : (syn p n).length = n := tab_len
inductive synS (us : List V) (hp : List O) (Q : Res → List O → Prop) : Prop
  | mk  a o p n (h0 : hp[a]? = some o) (h1 : IsP o p) (h2 : 1 ≤ p.length) (h3 : p.length ≤ SZ) (h4 : n ≤ 100) (h5 : us = [.ref a, .int (n : Nat), .int 0, .int 2]) (h6 : Tab hp) (h7 : Q (.one (.ref hp.length)) (hp ++ [Nm (0 :: syn p n)]))
theorem tr_syn {Gf : Fns} {C C' : CallForm} (hG : Gf[6]? = some (C, powS)) (hG' : Gf[11]? = some (C', evalS)) {us hp Q} (h : synS us hp Q) : wSL Gf GS hp.length b_rs_calc_syndromes ⟨fun i => us[i]?, hp⟩ (RetsV hp.length Q) := by
  obtain ⟨a, o, p, n, ha, ho, hp1, hs, hn, rfl, T, q⟩ := h
  rw [L_pad _ 1]
  unfold b_rs_calc_syndromes
  simp only [sl_cons, s_ret, x_bin, x_int, x_list, x_compR, xl_nil, xl_cons, x_L, List.map_cons, List.map_nil, rep_s, rep_z, List.cons_append, List.nil_append, lz, ls, Option.getD_some, listK1, nums_0]
  refine ⟨by decide, compR_introA 1 rfl (fun i => ((ev p (al i)).val : Int)) (by unfold SZ; omega) (fun i hi => ?_) ?_⟩
  · refine ax_L ?_
    simp only [x_call, x_bin, xl_cons, xl_nil, x_L, setL_z, setL_s, lz, ls, Option.getD_some, b_add, List.cons_append, List.nil_append, List.length_cons, List.length_nil, Nat.reduceAdd]
    refine callK_P hG (pow_gen (by omega) T.app ?_)
    rw [oneK]
    exact callK_P hG' ⟨a, o, p, al i, get_app ha, ho, hp1, hs, rfl, T.app, rfl, rfl⟩
  · rw [range_nm]
    refine b_catNA 2 rfl (x := [0]) (y := (tab n fun i => ev p (al i)).map fun a => (a.val : Int)) ?_ ?_ ?_ ?_
    · rw [get_new0]; rfl
    · rw [get_new]; rfl
    · simp [tab_len, SZ]; omega
    · simp only [kont_ret, List.cons_append, List.nil_append]
      exact rets_ref (i := 2) rfl q
theorem max_N {hp : List O} {a : Nat} {p : List GF} {Q : QE} (e : hp[a]? = some (Nm p)) (hp1 : p ≠ []) (hs : p.length ≤ SZ) (q : ∀ M : GF, M ∈ p → ((M.val : Int) = 0 ↔ ∀ x ∈ p, x = 0) → Q (.int M.val) hp) : wBI .max [.ref a] hp Q := by
  unfold wBI
  dsimp only
  rw [e]
  refine ⟨by simpa [Nm] using hp1, Nat.le_trans (Nat.le_of_eq (List.length_map _)) hs, fun M hM hmax => ?_⟩
  obtain ⟨x, hx, rfl⟩ := List.mem_map.mp hM
  refine q x hx ⟨fun h y hy => ?_, fun h => ?_⟩
  · have := hmax _ (List.mem_map.mpr ⟨y, hy, rfl⟩)
    exact eq_zero (by have := Int.natCast_nonneg y.val; omega)
  · rw [h x hx]; rfl
inductive checkS (us : List V) (hp : List O) (Q : Res → List O → Prop) : Prop
  | mk  a o p n (h0 : hp[a]? = some o) (h1 : IsP o p) (h2 : 1 ≤ p.length) (h3 : p.length ≤ SZ) (h4 : n ≤ 100) (h5 : us = [.ref a, .int (n : Nat)]) (h6 : Tab hp) (h7 : Q (.one (.bool (decide (∀ i, i < n → ev p (al i) = 0)))) hp)
theorem syn_zero {p : List GF} {n : Nat} : (∀ x ∈ (0 : GF) :: syn p n, x = 0) ↔ ∀ i, i < n → ev p (al i) = 0 := by
  simp only [syn, tab, List.mem_cons, forall_eq_or_imp, List.mem_map, List.mem_range, forall_exists_index, and_imp, true_and]
  constructor
  · intro h i hi; exact h _ i hi rfl
  · rintro h x i hi rfl; exact h i hi
theorem tr_check {Gf : Fns} {C : CallForm} (hG : Gf[14]? = some (C, synS)) {us hp Q} (h : checkS us hp Q) : wSL Gf GS hp.length b_rs_check ⟨fun i => (us ++ [V.int 0, .int 2])[i]?, hp⟩ (RetsV hp.length Q) := by
  obtain ⟨a, o, p, n, ha, ho, hp1, hs, hn, rfl, T, q⟩ := h
  rw [L_pad _ 0]
  unfold b_rs_check
  simp only [sl_cons, s_ret, x_cmp, x_int, x_bi, x_call, xl_nil, xl_cons, x_L, List.map_cons, List.map_nil, rep_s, rep_z, List.cons_append, List.nil_append, lz, ls, Option.getD_some]
  refine callK_P hG ⟨a, o, p, n, ha, ho, hp1, hs, hn, rfl, T, ?_⟩
  rw [oneK]
  refine max_N (by rw [get_new0]; rfl) (by simp) (by simp [syn_len, SZ]; omega) fun M _ hM => ?_
  rw [c_eq, kont_ret]
  refine rets_bool ?_
  have : decide ((M.val : Int) = 0) = decide (∀ i, i < n → ev p (al i) = 0) := by
    rw [decide_eq_decide]; exact hM.trans syn_zero
  rw [this]; exact q
end Mine
end
section
open PySem PyProof.Rows
namespace Mine
local macro_rules | `(tactic| omega) => `(tactic| first | assumption | lia | omega +splitDisjunctions)
open P GF
section
variable {Gf : Fns} {gs : List V} {k k1 k2 : Nat} {body : SL} {loc : Loc} {hp t t' : List O} {Q : QS} {vs : List (Option V)} {xs : List Int}
theorem rho_ne {n r : Nat} {is : List Nat} (hr : r < n) {j : Nat} (hj : n ≤ j) : (rho n is)[j]? ≠ some r := by
  obtain ⟨i, rfl⟩ := Nat.exists_eq_add_of_le hj
  rw [rho_new]
  intro h
  obtain ⟨m, _, rfl⟩ := Option.map_eq_some_iff.mp h
  omega
theorem rho_ne1 {n i : Nat} {is : List Nat} (hnd : (i :: is).Nodup) {j : Nat} (hj : n + 1 ≤ j) : (rho n (i :: is))[j]? ≠ some (n + i) := by
  obtain ⟨m, rfl⟩ := Nat.exists_eq_add_of_le hj
  rw [show n + 1 + m = n + (m + 1) by omega, rho_new, List.getElem?_cons_succ]
  intro h
  obtain ⟨q, hq, e⟩ := Option.map_eq_some_iff.mp h
  have : q = i := by omega
  subst this
  exact (List.nodup_cons.mp hnd).1 (List.mem_of_getElem? hq)
theorem forL_arg {r : Nat} (hr : hp[r]? = some (.nums xs)) (hs : xs.length ≤ SZ) (is : List Nat) (hnd : is.Nodup) (ho : is.map (fun i => t[i]?) = t'.map some) (hv : Via hp.length is loc vs 0)
    (I : Nat → St → Prop) (h0 : I 0 ⟨L vs, hp ++ t'⟩) (hstep : ∀ (i : Nat) (x : Int) st1, I i st1 → xs[i]? = some x → wSL Gf gs hp.length body ⟨st1.loc.set k (.int x), st1.hp⟩ (Turn hp.length (I (i + 1))))
    (hd : ∀ st1, I xs.length st1 → Q .next st1) : wForL Gf gs hp.length k body loc (.ref r) (hp ++ t) Q := by
  unfold wForL
  dsimp only
  rw [get_app hr]
  exact ⟨hs, hp.length, _, _, Nat.le_refl _, view_mk is hnd ho hv, by simp, fun j hj => rho_ne (lt_of_get hr) hj, I, h0, hstep, hd⟩
theorem forL_own {i : Nat} (hi : t[i]? = some (.nums xs)) (hs : xs.length ≤ SZ) (is : List Nat) (hnd : (i :: is).Nodup) (ho : is.map (fun i => t[i]?) = t'.map some) (hv : Via hp.length (i :: is) loc vs 0)
    (I : Nat → St → Prop) (h0 : I 0 ⟨L vs, hp ++ [.nums xs] ++ t'⟩) (hstep : ∀ (i : Nat) (x : Int) st1, I i st1 → xs[i]? = some x → wSL Gf gs (hp ++ [O.nums xs]).length body ⟨st1.loc.set k (.int x), st1.hp⟩ (Turn (hp ++ [O.nums xs]).length (I (i + 1))))
    (hd : ∀ st1, I xs.length st1 → Q .next st1) : wForL Gf gs hp.length k body loc (.ref (hp.length + i)) (hp ++ t) Q := by
  unfold wForL
  dsimp only
  rw [get_new, hi]
  refine ⟨hs, (hp ++ [O.nums xs]).length, _, _, by simp, view_mk (t' := .nums xs :: t') (i :: is) hnd (by simp [hi, ho]) hv, by simp, fun j hj => rho_ne1 hnd (by simpa using hj), I, ?_, hstep, hd⟩
  rw [List.append_assoc] at h0; exact h0
theorem forE_own {i : Nat} (hi : t[i]? = some (.nums xs)) (hs : xs.length ≤ SZ) (is : List Nat) (hnd : (i :: is).Nodup) (ho : is.map (fun i => t[i]?) = t'.map some) (hv : Via hp.length (i :: is) loc vs 0)
    (I : Nat → St → Prop) (h0 : I 0 ⟨L vs, hp ++ [.nums xs] ++ t'⟩) (hstep : ∀ (i : Nat) (x : Int) st1, I i st1 → xs[i]? = some x → wSL Gf gs (hp ++ [O.nums xs]).length body ⟨(st1.loc.set k1 (.int i)).set k2 (.int x), st1.hp⟩ (Turn (hp ++ [O.nums xs]).length (I (i + 1))))
    (hd : ∀ st1, I xs.length st1 → Q .next st1) : wForE Gf gs hp.length k1 k2 body loc (.ref (hp.length + i)) (hp ++ t) Q := by
  unfold wForE
  dsimp only
  rw [get_new, hi]
  refine ⟨hs, (hp ++ [O.nums xs]).length, _, _, by simp, view_mk (t' := .nums xs :: t') (i :: is) hnd (by simp [hi, ho]) hv, by simp, fun j hj => rho_ne1 hnd (by simpa using hj), I, ?_, hstep, hd⟩
  rw [List.append_assoc] at h0; exact h0
end
noncomputable def intsO (xs : List Nat) : O := .nums (xs.map Int.ofNat)
theorem ints_len (xs : List Nat) : (xs.map Int.ofNat).length = xs.length := List.length_map ..
noncomputable def elocs (xs : List Nat) : List GF := xs.foldl (fun e x => pm e [al x, 1]) [1]
theorem elocs_snoc (xs : List Nat) (x : Nat) : elocs (xs ++ [x]) = pm (elocs xs) [al x, 1] := by
  unfold elocs; rw [List.foldl_append]; rfl
theorem elocs_len_go : ∀ (xs : List Nat) (e : List GF), 1 ≤ e.length → (xs.foldl (fun e x => pm e [al x, 1]) e).length = e.length + xs.length
  | [], e, _ => rfl
  | x :: xs, e, h => by
    rw [List.foldl_cons, elocs_len_go xs _ (by rw [pm_length, List.length_cons, List.length_cons]; omega), pm_length]
    simp; omega
theorem elocs_len (xs : List Nat) : (elocs xs).length = xs.length + 1 := by
  unfold elocs; rw [elocs_len_go xs [1] (by decide)]; simp; omega
theorem padd_one (x : Nat) : padd [1] [al x, 0] = [al x, 1] := by
  simp only [padd, List.length_cons, List.length_nil, zad, zer]
  show List.zipWith (· + ·) [0, 1] [al x, 0] = _
  simp only [List.zipWith_cons_cons, List.zipWith_nil_left]
  rw [show (0 : GF) + al x = al x by grind, show (1 : GF) + 0 = 1 by grind]
inductive locS (us : List V) (hp : List O) (Q : Res → List O → Prop) : Prop
  | mk  a xs (h0 : hp[a]? = some (intsO xs)) (h1 : xs.length ≤ 100) (h2 : (∀ x ∈ xs, x < 2 ^ 60)) (h3 : us = [.ref a, .int 2]) (h4 : Tab hp) (h5 : (∀ o, IsP o (elocs xs) → Q (.one (.ref hp.length)) (hp ++ [o])))
theorem tr_loc {Gf : Fns} {C C' C'' : CallForm} (hG : Gf[6]? = some (C, powS)) (hG' : Gf[8]? = some (C', addS)) (hG'' : Gf[9]? = some (C'', polyMulS)) {us hp Q} (h : locS us hp Q) : wSL Gf GS hp.length b_rs_find_errata_locator ⟨fun i => us[i]?, hp⟩ (RetsV hp.length Q) := by
  obtain ⟨a, xs, ha, hs, hx, rfl, T, q⟩ := h
  have la := lt_of_get ha
  have hsz : (xs.map Int.ofNat).length ≤ SZ := by rw [ints_len]; unfold SZ; omega
  rw [L_pad _ 2]
  unfold b_rs_find_errata_locator
  simp only [sl_cons, s_assign, x_int, x_list, xl_nil, xl_cons, x_L, List.map_cons, List.map_nil, rep_s, rep_z, List.cons_append, List.nil_append, lz, ls, Option.getD_some]
  refine lk0 rfl rfl ?_
  refine kn_L ?_
  simp only [setL_z, setL_s, kontL, sl_cons, s_forL, x_L, lz, ls, Option.getD_some, List.cons_append, List.nil_append, List.length_cons, List.length_nil, Nat.reduceAdd]
  refine forL_arg (t' := [Nm [1]]) (vs := [some (.ref a), some (.int 2), some (.ref hp.length), none]) ha hsz [0] (by decide) rfl (by (repeat' first | exact trivial | refine via_none ?_ | refine via_int rfl ?_ | refine via_bool rfl ?_ | refine via_non rfl ?_ | refine via_old (by omega) rfl ?_ | refine via_new0 rfl rfl ?_ | refine via_new rfl rfl ?_))
    (fun i st => ∃ o, st = ⟨L [some (.ref a), some (.int 2), some (.ref hp.length), none], hp ++ [o]⟩ ∧ IsP o (elocs (xs.take i))) ⟨_, rfl, isN _⟩ ?_ ?_
  · rintro i x st ⟨o, rfl, ho⟩ hi
    rw [List.getElem?_map, Option.map_eq_some_iff] at hi
    obtain ⟨y, hy, rfl⟩ := hi
    have hil := (List.getElem?_eq_some_iff.mp hy).1
    refine as_L ?_
    simp only [sl_cons, sl_nil, kontL, s_assign, x_call, x_list, x_bi, x_int, xl_cons, xl_nil, x_L, setL_z, setL_s, lz, ls, Option.getD_some, List.cons_append, List.nil_append, List.length_cons, List.length_nil, Nat.reduceAdd]
    refine lkA 1 rfl rfl rfl ?_
    refine ba_NA 2 rfl (p := [1]) (by rw [get_new]; rfl) (by decide) ?_
    refine callK_P hG (pow_gen (Nat.lt_trans (hx y (List.mem_of_getElem? hy)) (by decide)) T.app ?_)
    rw [oneK]
    refine lkA 3 rfl rfl rfl ?_
    refine callK_P hG' ⟨hp.length + 2, hp.length + 3, Nm [al y, 0], [1], [al y, 0], ?_, ?_, isN _, by decide, by simp [SZ], rfl, ?_⟩
    · rw [get_new]; rfl
    · rw [get_new]; rfl
    refine oneK_A 4 rfl ?_
    refine callK_P hG'' ⟨hp.length, hp.length + 4, o, B _, elocs (xs.take i), [al y, 1], ?_, ho, ?_, isB _, ?_, by simp, ?_, rfl, T.app, ?_⟩
    · rw [get_new0]; rfl
    · rw [get_new, padd_one]; rfl
    · rw [elocs_len]; omega
    · rw [elocs_len]; simp [SZ]; omega
    refine oneK_A 5 rfl (kn_L ?_)
    rw [sl_nil]
    refine turn (t' := [B (elocs (xs.take (i + 1)))]) (vs := [some (.ref a), some (.int 2), some (.ref hp.length), none]) [5] (by decide) ?_ ?_ ⟨_, rfl, isB _⟩
    · rw [List.take_add_one, hy]
      show _ = List.map some [B (elocs (xs.take i ++ [y]))]
      rw [elocs_snoc]; rfl
    · (repeat' first | exact trivial | refine via_none ?_ | refine via_int rfl ?_ | refine via_bool rfl ?_ | refine via_non rfl ?_ | refine via_old (by omega) rfl ?_ | refine via_new0 rfl rfl ?_ | refine via_new rfl rfl ?_)
  · rintro st ⟨o, rfl, ho⟩
    simp only [kontL, sl_cons, s_ret, kont_ret, x_L, lz, ls, Option.getD_some, List.cons_append, List.nil_append, List.length_cons, List.length_nil, Nat.reduceAdd]
    rw [ints_len, List.take_length] at ho
    exact rets_ref (i := 0) rfl (q o ho)
inductive evrS (us : List V) (hp : List O) (Q : Res → List O → Prop) : Prop
  | mk  a b o o' p q m (h0 : hp[a]? = some o) (h1 : IsP o p) (h2 : hp[b]? = some o') (h3 : IsP o' q) (h4 : 1 ≤ p.length) (h5 : q.length = m + 1) (h6 : p.length + q.length ≤ 1000) (h7 : us = [.ref a, .ref b, .int (m : Nat)]) (h8 : Tab hp) (h9 : m + 1 ≤ (pm p q).length) (h10 : Q (.one (.ref hp.length)) (hp ++ [B ((pm p q).drop ((pm p q).length - (m + 1)))]))
theorem b_rep {a : Nat} {x : Int} {j : Nat} {hp : List O} {Q : QE} (h : hp[a]? = some (.nums [x])) (hj : j ≤ SZ) (q : Q (.ref hp.length) (hp ++ [.nums (List.replicate j x)])) : wBin .Mult (.ref a) (.int (j : Int)) hp Q := by
  unfold wBin
  dsimp only
  rw [h]
  exact ⟨Int.ofNat_le.mpr hj, Int.le_trans (by decide) (Int.natCast_nonneg j), q⟩
theorem b_repA {a : Nat} {x : Int} {j : Nat} {hp t : List O} {Q : QE} (k : Nat) (hk : t.length = k) (h : (hp ++ t)[a]? = some (.nums [x])) (hj : j ≤ SZ) (q : Q (.ref (hp.length + k)) (hp ++ (t ++ [.nums (List.replicate j x)]))) : wBin .Mult (.ref a) (.int (j : Int)) (hp ++ t) Q :=
  b_rep h hj (by rw [ap_len hk, List.append_assoc]; exact q)
theorem tr_evr {Gf : Fns} {C C' : CallForm} (hG : Gf[9]? = some (C, polyMulS)) (hG' : Gf[10]? = some (C', polyDivS)) {us hp Q} (h : evrS us hp Q) : wSL Gf GS hp.length b_rs_find_error_evaluator ⟨fun i => us[i]?, hp⟩ (RetsV hp.length Q) := by
  obtain ⟨a, b, o, o', p, q, m, ha, ho, hb, ho', hp1, hqm, hs, rfl, T, hm, hq⟩ := h
  rw [L_pad _ 2]
  unfold b_rs_find_error_evaluator
  simp only [sl_cons, s_unpack, x_call, x_bin, x_int, x_list, xl_nil, xl_cons, x_L, List.map_cons, List.map_nil, rep_s, rep_z, List.cons_append, List.nil_append, lz, ls, Option.getD_some]
  refine callK_P hG ⟨a, b, o, o', p, q, ha, ho, hb, ho', hp1, by omega, by unfold SZ; omega, rfl, T, ?_⟩
  rw [oneK]
  refine lkA 1 rfl rfl rfl ?_
  refine lkA 2 rfl rfl rfl ?_
  rw [b_add, show ((m : Nat) : Int) + 1 = ((m + 1 : Nat) : Int) from rfl]
  refine b_repA 3 rfl (x := 0) (by rw [get_new]; rfl) (by unfold SZ; omega) ?_
  refine b_catNA 4 rfl (x := [1]) (y := List.replicate (m + 1) 0) (by rw [get_new]; rfl) (by rw [get_new]; rfl) (by simp [SZ]; omega) ?_
  have e1 : O.nums (1 :: List.replicate (m + 1) 0) = Nm (1 :: zer (m + 1)) := by
    unfold Nm zer
    rw [List.map_cons, List.map_replicate]; rfl
  refine callK_P hG' ⟨hp.length, hp.length + 4, pm p q, m + 1, by rw [get_new0]; rfl, by rw [get_new]; exact congrArg some e1, by omega, hm, by rw [pm_length]; unfold SZ; omega, rfl, ?_⟩
  refine unpK2A 5 6 rfl rfl ?_
  simp only [ setL_z, setL_s, kontL, sl_cons, s_ret, kont_ret, x_L, lz, ls, Option.getD_some, List.cons_append, List.nil_append, List.length_cons, List.length_nil, Nat.reduceAdd]
  exact rets_ref (i := 6) rfl hq
theorem len_N {hp : List O} {a : Nat} {l : List Int} {Q : QE} (h : hp[a]? = some (.nums l)) (hs : l.length ≤ SZ) (q : Q (.int (l.length : Nat)) hp) : wBI .len [.ref a] hp Q := by
  unfold wBI
  dsimp only
  rw [h]; exact ⟨hs, q⟩
noncomputable def rootsOf (p : List GF) (n : Nat) : List Nat := (List.range n).filter fun i => decide (ev p (al i) = 0)
inductive findS (us : List V) (hp : List O) (Q : Res → List O → Prop) : Prop
  | mk  a o p n (h0 : hp[a]? = some o) (h1 : IsP o p) (h2 : 1 ≤ p.length) (h3 : p.length ≤ SZ) (h4 : n ≤ 255) (h5 : us = [.ref a, .int (n : Nat), .int 2]) (h6 : Tab hp) (h7 : (rootsOf p n).length + 1 = p.length) (h8 : Q (.one (.ref hp.length)) (hp ++ [intsO ((rootsOf p n).map fun i => n - 1 - i)]))
theorem rootsOf_succ (p : List GF) (n : Nat) : rootsOf p (n + 1) = rootsOf p n ++ if ev p (al n) = 0 then [n] else [] := by
  unfold rootsOf
  rw [List.range_succ, List.filter_append]
  congr 1
  by_cases h : ev p (al n) = 0 <;> simp [h]
theorem tr_find {Gf : Fns} {C C' : CallForm} (hG : Gf[6]? = some (C, powS)) (hG' : Gf[11]? = some (C', evalS)) {us hp Q} (h : findS us hp Q) : wSL Gf GS hp.length b_rs_find_errors ⟨fun i => us[i]?, hp⟩ (RetsV hp.length Q) := by
  obtain ⟨a, o, p, n, ha, ho, hp1, hs, hn, rfl, T, hr, q⟩ := h
  have la := lt_of_get ha
  rw [L_pad _ 3]
  unfold b_rs_find_errors
  simp only [sl_cons, s_assign, x_bin, x_bi, x_int, xl_nil, xl_cons, x_L, List.map_cons, List.map_nil, rep_s, rep_z, List.cons_append, List.nil_append, lz, ls, Option.getD_some]
  refine len_P ha ho hs ?_
  refine kn_L ?_
  simp only [b_sub, setL_z, setL_s, kontL, sl_cons, s_assign, s_forR, x_int, x_list, xl_nil, x_L, lz, ls, Option.getD_some]
  refine lk0 rfl rfl (kn_L ?_)
  simp only [setL_z, setL_s, sl_cons, s_forR, x_int, x_L, lz, ls, Option.getD_some]
  refine for_zero (by unfold SZ; omega) (fun i st => st = ⟨L [some (.ref a), some (.int (n : Nat)), some (.int 2), some (.int ((p.length : Int) - 1)), some (.ref hp.length), none], hp ++ [.nums ((rootsOf p i).map fun i => ((n - 1 - i : Nat) : Int))]⟩) rfl ?_ ?_
  · rintro i st rfl hi
    refine as_L ?_
    simp only [sl_cons, sl_nil, kontL, s_iff, k_cmp, x_call, x_bin, x_int, xl_cons, xl_nil, x_L, setL_z, setL_s, lz, ls, Option.getD_some, List.cons_append, List.nil_append, List.length_cons, List.length_nil, Nat.reduceAdd]
    refine callK_P hG (pow_gen (by omega) T.app ?_)
    rw [oneK]
    refine callK_P hG' ⟨a, o, p, al i, get_app ha, ho, hp1, hs, rfl, T.app, ?_⟩
    rw [oneK, c_eq, t_bool]
    have el : (rootsOf p i).length ≤ i := by
      unfold rootsOf
      exact Nat.le_trans (List.length_filter_le _ _) (by simp)
    by_cases hz : ev p (al i) = 0
    · have e : decide (((ev p (al i)).val : Int) = 0) = true := by rw [hz]; rfl
      rw [e]
      simp only [sl_cons, sl_nil, kontL, s_app, x_bin, x_int, x_L, lz, ls, Option.getD_some, List.cons_append, List.nil_append, List.length_cons, List.length_nil, Nat.reduceAdd]
      refine app_intro (by rw [get_new0]; rfl) ?_
      simp only [x_bin, x_int, x_L, lz, ls, Option.getD_some, b_sub, List.cons_append, List.nil_append, List.length_cons, List.length_nil, Nat.reduceAdd]
      refine appK_int (Nat.le_refl _) (by rw [get_new0]; rfl) (by simp [SZ]; omega) ?_
      rw [set_new0, List.set_cons_zero, kont_next, sl_nil]
      refine turn (t' := [.nums ((rootsOf p (i + 1)).map fun i => ((n - 1 - i : Nat) : Int))]) (vs := [some (.ref a), some (.int (n : Nat)), some (.int 2), some (.int ((p.length : Int) - 1)), some (.ref hp.length), none]) [0] (by decide) ?_ ?_ rfl
      · rw [rootsOf_succ, if_pos hz, List.map_append, show ((n : Nat) : Int) - 1 - (i : Int) = ((n - 1 - i : Nat) : Int) by omega]; rfl
      · (repeat' first | exact trivial | refine via_none ?_ | refine via_int rfl ?_ | refine via_bool rfl ?_ | refine via_non rfl ?_ | refine via_old (by omega) rfl ?_ | refine via_new0 rfl rfl ?_ | refine via_new rfl rfl ?_)
    · have e : decide (((ev p (al i)).val : Int) = 0) = false := by
        rw [decide_eq_false_iff_not]
        exact fun h => hz (val_eq_zero.mp h)
      rw [e]
      refine turn (t' := [.nums ((rootsOf p (i + 1)).map fun i => ((n - 1 - i : Nat) : Int))]) (vs := [some (.ref a), some (.int (n : Nat)), some (.int 2), some (.int ((p.length : Int) - 1)), some (.ref hp.length), none]) [0] (by decide) ?_ ?_ rfl
      · rw [rootsOf_succ, if_neg hz, List.append_nil]; rfl
      · (repeat' first | exact trivial | refine via_none ?_ | refine via_int rfl ?_ | refine via_bool rfl ?_ | refine via_non rfl ?_ | refine via_old (by omega) rfl ?_ | refine via_new0 rfl rfl ?_ | refine via_new rfl rfl ?_)
  · rintro st rfl
    have el : (rootsOf p n).length ≤ n := by
      unfold rootsOf
      exact Nat.le_trans (List.length_filter_le _ _) (by simp)
    simp only [kontL, sl_cons, sl_nil, s_iff, k_cmp, x_bi, xl_cons, xl_nil, x_L, lz, ls, Option.getD_some]
    refine len_N (by rw [get_new0]; rfl) (by rw [List.length_map]; unfold SZ; omega) ?_
    rw [List.length_map, c_ne, t_bool]
    have e : decide (((rootsOf p n).length : Int) ≠ (p.length : Int) - 1) = false := by
      rw [decide_eq_false_iff_not]; omega
    rw [e]
    simp only [s_ret, kontL, sl_cons, kont_ret, x_L, lz, ls, Option.getD_some, List.cons_append, List.nil_append, List.length_cons, List.length_nil, Nat.reduceAdd]
    refine rets_ref (i := 0) rfl ?_
    unfold intsO at q
    rw [List.map_map] at q
    exact q
end Mine
end
section
open PySem PyProof.Rows
namespace Mine
local macro_rules | `(tactic| omega) => `(tactic| first | assumption | lia | omega +splitDisjunctions)
open P GF
noncomputable def fst1 (x : GF) (s : List GF) : List GF := tab s.length fun j => if j + 1 < s.length then s.getD j 0 * x + s.getD (j + 1) 0 else s.getD j 0
noncomputable def forn (s : List GF) (xs : List GF) : List GF := xs.foldl (fun s x => fst1 x s) s
theorem fst1_len (x : GF) (s : List GF) : (fst1 x s).length = s.length := tab_len
theorem forn_len : ∀ (xs s : List GF), (forn s xs).length = s.length
  | [], s => rfl
  | x :: xs, s => by
    show (forn (fst1 x s) xs).length = _
    rw [forn_len xs, fst1_len]
theorem forn_snoc (s xs : List GF) (x : GF) : forn s (xs ++ [x]) = fst1 x (forn s xs) := by
  unfold forn; rw [List.foldl_append]; rfl
inductive fornS (us : List V) (hp : List O) (Q : Res → List O → Prop) : Prop
  | mk  a b s ps n (h0 : hp[a]? = some (Nm (0 :: s))) (h1 : hp[b]? = some (intsO ps)) (h2 : 1 ≤ s.length) (h3 : s.length ≤ 100) (h4 : ps.length ≤ 100) (h5 : n ≤ 255) (h6 : (∀ p ∈ ps, p < n)) (h7 : us = [.ref a, .ref b, .int (n : Nat), .int 2]) (h8 : Tab hp) (h9 : Q (.one (.ref hp.length)) (hp ++ [Nm (forn s (ps.map fun p => al (n - 1 - p)))]))
theorem len_ints {hp : List O} {a : Nat} {xs : List Nat} {Q : QE} (h : hp[a]? = some (intsO xs)) (hs : xs.length ≤ SZ) (q : Q (.int (xs.length : Nat)) hp) : wBI .len [.ref a] hp Q := by
  unfold wBI
  dsimp only
  rw [h]
  exact ⟨Nat.le_trans (Nat.le_of_eq (ints_len xs)) hs, (congrArg (fun n : Nat => Q (.int n) hp) (ints_len xs)).mpr q⟩
theorem idx_ints {hp : List O} {a i : Nat} {xs : List Nat} {x : Nat} {Q : QE} (h : hp[a]? = some (intsO xs)) (hx : xs[i]? = some x) (hs : xs.length ≤ SZ) (q : Q (.int (x : Int)) hp) : wIdx (.ref a) (.int (i : Int)) hp Q :=
  idx_nums h (by rw [List.getElem?_map, hx]; rfl) (by simpa using hs) q
theorem lst_N {hp : List O} {a : Nat} {l : List Int} {Q : QE} (h : hp[a]? = some (.nums l)) (hs : l.length ≤ SZ) (q : Q (.ref hp.length) (hp ++ [.nums l])) : wBI .lst [.ref a] hp Q := by
  unfold wBI
  dsimp only
  rw [h]; exact ⟨hs, q⟩
theorem lst_B {hp : List O} {a : Nat} {p : List GF} {Q : QE} (h : hp[a]? = some (B p)) (hs : p.length ≤ SZ) (q : Q (.ref hp.length) (hp ++ [Nm p])) : wBI .lst [.ref a] hp Q := by
  unfold wBI
  dsimp only
  rw [h]
  refine ⟨Nat.le_trans (Nat.le_of_eq (List.length_map _)) hs, ?_⟩
  rw [List.map_map]; exact q
theorem lst_NA {hp t : List O} {a : Nat} {l : List Int} {Q : QE} (k : Nat) (hk : t.length = k) (h : (hp ++ t)[a]? = some (.nums l)) (hs : l.length ≤ SZ) (q : Q (.ref (hp.length + k)) (hp ++ (t ++ [.nums l]))) : wBI .lst [.ref a] (hp ++ t) Q :=
  lst_N h hs (by rw [ap_len hk, List.append_assoc]; exact q)
theorem lst_BA {hp t : List O} {a : Nat} {p : List GF} {Q : QE} (k : Nat) (hk : t.length = k) (h : (hp ++ t)[a]? = some (B p)) (hs : p.length ≤ SZ) (q : Q (.ref (hp.length + k)) (hp ++ (t ++ [Nm p]))) : wBI .lst [.ref a] (hp ++ t) Q :=
  lst_B h hs (by rw [ap_len hk, List.append_assoc]; exact q)
theorem Nm_set (s : List GF) (j : Nat) (v : GF) : (s.map fun a => (a.val : Int)).set j (v.val : Int) = (s.set j v).map fun a => (a.val : Int) := by rw [List.map_set]
theorem slice_from1 {α : Type} (p : List α) : sliceOf p (some 1) none = p.drop 1 := slice_fromN p 1
theorem rangeD {j m : Nat} (h : j < m) : (List.range m).getD j 0 = j := by
  rw [List.getD_eq_getElem?_getD, List.getElem?_range h]; rfl
theorem range_get (t : List O) : (List.range t.length).map (fun i => t[i]?) = t.map some := by
  apply List.ext_getElem?
  intro i
  rw [List.getElem?_map, List.getElem?_map]
  rcases Nat.lt_or_ge i t.length with h | h
  · rw [List.getElem?_range h, List.getElem?_eq_getElem h]; simp [h]
  · rw [List.getElem?_eq_none (by simpa using h), List.getElem?_eq_none h]; rfl
theorem turnId {hp t : List O} {l : Loc} {vs : List (Option V)} {J : St → Prop} (hv : Via hp.length (List.range t.length) l vs 0) (hJ : J ⟨L vs, hp ++ t⟩) : Turn hp.length J .next ⟨l, hp ++ t⟩ :=
  turn (List.range t.length) List.nodup_range (range_get t) hv hJ
theorem tr_forn {Gf : Fns} {C C' : CallForm} (hG : Gf[6]? = some (C, powS)) (hG' : Gf[4]? = some (C', mulS)) {us hp Q} (h : fornS us hp Q) : wSL Gf GS hp.length b_rs_forney_syndromes ⟨fun i => us[i]?, hp⟩ (RetsV hp.length Q) := by
  obtain ⟨a, b, s, ps, n, ha, hb, hs1, hs, hps, hn, hlt, rfl, T, q⟩ := h
  have la := lt_of_get ha
  have lb := lt_of_get hb
  rw [L_pad _ 6]
  unfold b_rs_forney_syndromes
  simp only [sl_cons, s_assignC, x_compL, x_L, List.map_cons, List.map_nil, rep_s, rep_z, List.cons_append, List.nil_append, lz, ls, Option.getD_some]
  refine compL_intro hb (fun x => (n : Int) - 1 - x) (by rw [ints_len]; unfold SZ; omega) (fun x hx => ?_) ?_
  · refine ax_L ?_
    simp only [x_bin, x_int, x_L, setL_z, setL_s, lz, ls, Option.getD_some, b_sub, List.cons_append, List.nil_append, List.length_cons, List.length_nil, Nat.reduceAdd]
    exact ⟨rfl, rfl⟩
  have e0 : O.nums ((ps.map Int.ofNat).map fun x => (n : Int) - 1 - x) = intsO (ps.map fun p => n - 1 - p) := by
    unfold intsO
    rw [List.map_map, List.map_map]
    congr 1
    refine List.map_congr_left fun p hp => ?_
    have := hlt p hp
    show (n : Int) - 1 - (p : Int) = ((n - 1 - p : Nat) : Int)
    omega
  rw [e0]
  refine kn_L ?_
  simp only [setL_z, setL_s, kontL, sl_cons, s_assign, x_bi, x_slc, x_int, x_none, xl_nil, xl_cons, x_L, lz, ls, Option.getD_some, List.cons_append, List.nil_append, List.length_cons, List.length_nil, Nat.reduceAdd]
  refine slc_NA 1 rfl (get_app ha) rfl rfl (by simp [SZ]; omega) ?_
  rw [slice_from1]
  refine lst_NA 2 rfl (l := s.map fun a => (a.val : Int)) (by rw [get_new]; rfl) (by simp [SZ]; omega) (kn_L ?_)
  simp only [setL_z, setL_s, kontL, sl_cons, s_forR, x_bi, x_int, xl_nil, xl_cons, x_L, lz, ls, Option.getD_some, List.cons_append, List.nil_append, List.length_cons, List.length_nil, Nat.reduceAdd]
  refine len_ints (get_app hb) (by unfold SZ; omega) ?_
  refine for_zero (by unfold SZ; omega) (fun i st => ∃ k t, st = ⟨L [some (.ref a), some (.ref b), some (.int (n : Nat)), some (.int 2), some (.ref hp.length), some (.ref (hp.length + (k + 1))), none, none, none, none], hp ++ (intsO (ps.map fun p => n - 1 - p) :: t)⟩ ∧ t[k]? = some (Nm (forn s ((ps.take i).map fun p => al (n - 1 - p))))) ⟨1, _, rfl, rfl⟩ ?_ ?_
  · rintro i st ⟨k, t, rfl, hk⟩ hi
    refine cutK fun KK hKK => ?_
    generalize hss : forn s ((ps.take i).map fun p => al (n - 1 - p)) = ss at hk
    have hsl : ss.length = s.length := by rw [← hss, forn_len]
    have hpi : ps[i]? = some ps[i] := List.getElem?_eq_getElem hi
    refine as_L ?_
    simp only [sl_cons, sl_nil, kontL, s_assign, x_call, x_idx, xl_cons, xl_nil, x_L, setL_z, setL_s, lz, ls, Option.getD_some, List.cons_append, List.nil_append, List.length_cons, List.length_nil, Nat.reduceAdd]
    refine idx_ints (x := n - 1 - ps[i]) (by rw [get_new0]; rfl) (by rw [List.getElem?_map, hpi]; rfl) (by simp [SZ]; omega) ?_
    refine callK_P hG (pow_gen (by omega) T.app ?_)
    rw [oneK]
    have hnew : (hp ++ (intsO (ps.map fun p => n - 1 - p) :: t))[hp.length + (k + 1)]? = some (Nm ss) := by rw [get_new, ls]; exact hk
    refine kn_L ?_
    simp only [setL_z, setL_s, sl_cons, sl_nil, kontL, s_forR, x_bin, x_bi, x_int, xl_cons, xl_nil, x_L, lz, ls, Option.getD_some, List.cons_append, List.nil_append, List.length_cons, List.length_nil, Nat.reduceAdd]
    refine len_P hnew (isN _) (by rw [hsl]; unfold SZ; omega) ?_
    rw [b_sub, hsl, show ((s.length : Nat) : Int) - 1 = ((s.length - 1 : Nat) : Int) by omega]
    have hkl : k < t.length := (List.getElem?_eq_some_iff.mp hk).1
    refine for_zero (by unfold SZ; omega) (fun j st => ∃ t', st = ⟨L [some (.ref a), some (.ref b), some (.int (n : Nat)), some (.int 2), some (.ref hp.length), some (.ref (hp.length + (k + 1))), some (.int (i : Nat)), some (.int ((al (n - 1 - ps[i])).val : Int)), none, none],
      hp ++ (intsO (ps.map fun p => n - 1 - p) :: t')⟩ ∧ t'[k]? = some (Nm (tab s.length fun m => if m < j then ss.getD m 0 * al (n - 1 - ps[i]) + ss.getD (m + 1) 0 else ss.getD m 0))) ⟨_, rfl, ?_⟩ ?_ ?_
    · rw [hk]
      congr 2
      exact eq_tab hsl fun m hm => by rw [if_neg (by omega)]
    · rintro j st ⟨t', rfl, hk'⟩ hj
      refine cutK fun KI hKI => ?_
      have hkl' : k < t'.length := (List.getElem?_eq_some_iff.mp hk').1
      have hnew' : (hp ++ (intsO (ps.map fun p => n - 1 - p) :: t'))[hp.length + (k + 1)]? = some (Nm (tab s.length fun m => if m < j then ss.getD m 0 * al (n - 1 - ps[i]) + ss.getD (m + 1) 0 else ss.getD m 0)) := by rw [get_new, ls]; exact hk'
      refine as_L ?_
      simp only [sl_cons, sl_nil, kontL, s_setI, x_call, x_idx, x_bin, x_int, xl_cons, xl_nil, x_L, setL_z, setL_s, lz, ls, Option.getD_some, List.cons_append, List.nil_append, List.length_cons, List.length_nil, Nat.reduceAdd]
      refine idx_P (i := j) hnew' (isN _) (by rw [tab_len]; omega) (by rw [tab_len]; unfold SZ; omega) ?_
      rw [tab_getD (by omega), if_neg (by omega)]
      refine callK_P hG' ⟨_, _, rfl, T.app, ?_⟩
      rw [oneK, b_add, show ((j : Nat) : Int) + 1 = ((j + 1 : Nat) : Int) by omega]
      refine idx_P (i := j + 1) hnew' (isN _) (by rw [tab_len]; omega) (by rw [tab_len]; unfold SZ; omega) ?_
      rw [tab_getD (by omega), if_neg (by omega)]
      refine b_xorG (st_nums (by omega) hnew' (by rw [List.length_map, tab_len]; omega) (by rw [List.length_map, tab_len]; unfold SZ; omega) ?_)
      rw [Nm_set, tab_set, set_new, kont_next, sl_nil]
      refine hKI _ ?_
      show Turn _ _ _ ⟨_, hp ++ (_ :: t'.set k (Nm _))⟩
      refine turnId (vs := [some (.ref a), some (.ref b), some (.int (n : Nat)), some (.int 2), some (.ref hp.length), some (.ref (hp.length + (k + 1))), some (.int (i : Nat)), some (.int ((al (n - 1 - ps[i])).val : Int)), none, none]) ?_ ⟨_, rfl, ?_⟩
      · (repeat' first | exact trivial | refine via_none ?_ | refine via_int (by first | rfl | (simp [L_get]; done)) ?_ | refine via_bool rfl ?_ | refine via_non rfl ?_ | refine via_old (by first | assumption | omega) rfl ?_ | refine via_new0 rfl rfl ?_ | refine via_new rfl rfl ?_ | refine via_rng0 (by first | omega | (simp; done) | (simp; omega)) rfl ?_ | refine via_rng (by first | omega | (simp; done) | (simp; omega)) rfl ?_ | fail)
      · rw [List.getElem?_set_self hkl']
        congr 2
        refine tab_ext fun m hm => ?_
        by_cases h1 : m = j
        · subst h1; rw [if_pos rfl, if_pos (by omega)]
        · rw [if_neg h1]
          by_cases h2 : m < j
          · rw [if_pos h2, if_pos (by omega)]
          · rw [if_neg h2, if_neg (by omega)]
    · rintro st ⟨t', rfl, hk'⟩
      have hkl' : k < t'.length := (List.getElem?_eq_some_iff.mp hk').1
      rw [kont_next, sl_nil]
      refine hKK _ <| turnId (vs := [some (.ref a), some (.ref b), some (.int (n : Nat)), some (.int 2), some (.ref hp.length), some (.ref (hp.length + (k + 1))), none, none, none, none]) ?_ ⟨k, _, rfl, ?_⟩
      · (repeat' first | exact trivial | refine via_none ?_ | refine via_int (by first | rfl | (simp [L_get]; done)) ?_ | refine via_bool rfl ?_ | refine via_non rfl ?_ | refine via_old (by first | assumption | omega) rfl ?_ | refine via_new0 rfl rfl ?_ | refine via_new rfl rfl ?_ | refine via_rng0 (by first | omega | (simp; done) | (simp; omega)) rfl ?_ | refine via_rng (by first | omega | (simp; done) | (simp; omega)) rfl ?_ | fail)
      · rw [hk']
        congr 2
        rw [List.take_add_one, hpi]
        show _ = forn s ((ps.take i ++ [ps[i]]).map fun p => al (n - 1 - p))
        rw [List.map_append]
        show _ = forn s (_ ++ [al (n - 1 - ps[i])])
        rw [forn_snoc, hss]
        unfold fst1
        rw [hsl]
        refine tab_ext fun m hm => ?_
        by_cases h2 : m < s.length - 1
        · rw [if_pos h2, if_pos (by omega)]
        · rw [if_neg h2, if_neg (by omega)]
  · rintro st ⟨k, t, rfl, hk⟩
    simp only [kontL, sl_cons, s_ret, kont_ret, x_L, lz, ls, Option.getD_some, List.cons_append, List.nil_append, List.length_cons, List.length_nil, Nat.reduceAdd]
    rw [List.take_length] at hk
    exact rets_ref (i := k + 1) hk q
end Mine
end
section
open PySem PyProof.Rows
namespace Mine
local macro_rules | `(tactic| omega) => `(tactic| first | assumption | lia | omega +splitDisjunctions)
open P GF
theorem sl_sum (s : Nat → GF) : ∀ (p : List GF) (d : Nat), sl s d p = sumN p.length fun i => p.getD i 0 * s (d + i)
  | [], d => rfl
  | c :: p, d => by
    rw [sl, sl_sum s p (d + 1), List.length_cons, sumN_head]
    simp only [List.getD_cons_zero, List.getD_cons_succ, Nat.add_zero]
    congr 1
    exact sumN_congr fun i _ => by rw [show d + 1 + i = d + (i + 1) by omega]
noncomputable def dsum (s : Nat → GF) (K : Nat) (err : List GF) (j : Nat) : GF := sumN j fun i => err.getD (err.length - 1 - i) 0 * s (K - i)
theorem delta_sum (s : Nat → GF) (K : Nat) (err : List GF) (h : err.length ≤ K + 1) : bmDelta s K err = dsum s K err err.length := by
  unfold bmDelta dsum
  rw [sl_sum, sumN_rev]
  refine sumN_congr fun i hi => ?_
  congr 2; omega
theorem lead_getD {p : List GF} (h : p ≠ []) : p.getD (p.length - 1) 0 = lead p := by
  rw [lead, List.getLastD_eq_getLast?, List.getLast?_eq_getElem?, List.getD_eq_getElem?_getD]
theorem idx_P_neg {hp : List O} {a m : Nat} {o : O} {p : List GF} {Q : QE} (h : hp[a]? = some o) (ho : IsP o p) (h1 : 1 ≤ m) (hm : m ≤ p.length) (hs : p.length ≤ SZ) (q : Q (.int (p.getD (p.length - m) 0).val) hp) : wIdx (.ref a) (.int (-(m : Int))) hp Q := by
  have e : ∀ n, n = p.length → pidx (-(m : Int)) n = some (p.length - m) := by
    rintro n rfl
    unfold pidx
    rw [if_neg (by omega), if_pos (by omega)]
    congr 1; omega
  have hi : p.length - m < p.length := by omega
  rcases ho with rfl | rfl
  · unfold wIdx
    dsimp only
    rw [h]
    dsimp only [B]
    rw [e _ (List.length_map _), Option.bind_some, List.getElem?_map, getD_some hi]
    exact ⟨Nat.le_trans (Nat.le_of_eq (List.length_map _)) hs, q⟩
  · unfold wIdx
    dsimp only
    rw [h]
    dsimp only [Nm]
    rw [e _ (List.length_map _), Option.bind_some, List.getElem?_map, getD_some hi]
    exact ⟨Nat.le_trans (Nat.le_of_eq (List.length_map _)) hs, q⟩
noncomputable def bmFull : List V → List V
  | [x, y, z] => [x, y, .none, z]
  | _ => []
inductive bmS (us : List V) (hp : List O) (Q : Res → List O → Prop) : Prop
  | mk  a s nsym e ks (h0 : hp[a]? = some (Nm s)) (h1 : s.length = nsym) (h2 : e ≤ nsym) (h3 : nsym ≤ 100) (h4 : (∀ n, n < nsym - e → s.getD n 0 = lf ks n [1])) (h5 : (xsOf ks).Nodup) (h6 : (∀ k ∈ ks, k.1 ≠ 0)) (h7 : (∀ k ∈ ks, k.2 ≠ 0)) (h8 : 2 * ks.length ≤ nsym - e) (h9 : us = [.ref a, .int (nsym : Nat), .int (e : Nat)]) (h10 : Tab hp) (h11 : Q (.one (.ref hp.length)) (hp ++ [Nm (bm (fun n => s.getD n 0) (nsym - e)).1]))
theorem b_catBP {a b : Nat} {x y : List GF} {hp : List O} {Q : QE} (h1 : hp[a]? = some (B x)) (h2 : hp[b]? = some (B y)) (hs : x.length + y.length ≤ SZ) (q : Q (.ref hp.length) (hp ++ [B (x ++ y)])) : wBin .Add (.ref a) (.ref b) hp Q :=
  b_catB h1 h2 (by simpa using hs) (by rw [← List.map_append]; exact q)
theorem b_catBPA {a b : Nat} {x y : List GF} {hp t : List O} {Q : QE} (k : Nat) (hk : t.length = k) (h1 : (hp ++ t)[a]? = some (B x)) (h2 : (hp ++ t)[b]? = some (B y)) (hs : x.length + y.length ≤ SZ) (q : Q (.ref (hp.length + k)) (hp ++ (t ++ [B (x ++ y)]))) : wBin .Add (.ref a) (.ref b) (hp ++ t) Q :=
  b_catBP h1 h2 hs (by rw [ap_len hk, List.append_assoc]; exact q)
theorem t_nums {hp : List O} {a : Nat} {l : List Int} {P : Bool → List O → Prop} (h : hp[a]? = some (.nums l)) (hs : l.length ≤ SZ) (q : P (decide (l ≠ [])) hp) : wTruth (.ref a) hp P := by
  unfold wTruth
  dsimp only
  rw [h]; exact ⟨hs, q⟩
theorem len1 {t : List O} {a : O} : (t ++ [a]).length = t.length + 1 := List.length_append
theorem len2 {t : List O} {a b : O} : (t ++ [a] ++ [b]).length = t.length + 2 := by rw [List.length_append, List.length_append]; rfl
theorem tr_bm {Gf : Fns} {C3 C4 C7 C8 : CallForm} (h3 : Gf[3]? = some (C3, invS)) (h4 : Gf[4]? = some (C4, mulS)) (h7 : Gf[7]? = some (C7, scaleS)) (h8 : Gf[8]? = some (C8, addS)) {us hp Q} (h : bmS us hp Q) :
    wSL Gf GS hp.length b_rs_find_error_locator ⟨fun i => (bmFull us)[i]?, hp⟩ (RetsV hp.length Q) := by
  obtain ⟨a, s, nsym, e, ks, ha, hsl, he, hn, hsy, hnd, hk1, hk2, h2v, rfl, T, q⟩ := h
  have la := lt_of_get ha
  have hSZ : nsym + 200 ≤ SZ := by unfold SZ; omega
  rw [show (fun i => (bmFull [V.ref a, .int (nsym : Nat), .int (e : Nat)])[i]?) = L ([V.ref a, .int (nsym : Nat), .none, .int (e : Nat)].map some ++ List.replicate 9 none) from L_pad _ 9]
  unfold b_rs_find_error_locator
  simp only [sl_cons, sl_nil, s_iff, k_loc, t_none, List.map_cons, List.map_nil, rep_s, rep_z, List.cons_append, List.nil_append, lz, ls, Option.getD_some, s_assign, x_bi, x_list, x_int, xl_cons, xl_nil]
  refine lk0 rfl rfl ?_
  refine ba_NA 1 rfl (p := [1]) (by rw [get_new0]; rfl) (by decide) (kn_L ?_)
  simp only [setL_z, setL_s, sl_cons, s_assign, x_bi, x_list, x_int, xl_cons, xl_nil, List.cons_append, List.nil_append]
  refine lkA 2 rfl rfl rfl ?_
  refine ba_NA 3 rfl (p := [1]) (by rw [get_new]; rfl) (by decide) (kn_L ?_)
  simp only [setL_z, setL_s, sl_cons, s_assign, x_int, List.cons_append, List.nil_append]
  refine kn_L ?_
  simp only [setL_z, setL_s, sl_cons, sl_nil, s_iff, k_cmp, x_bi, xl_cons, xl_nil, x_L, lz, ls, Option.getD_some]
  refine len_P (get_app ha) (isN _) (by omega) ?_
  rw [c_gt, t_bool, hsl]
  have e1 : decide (((nsym : Nat) : Int) > (nsym : Nat)) = false := by simp
  rw [e1]
  simp only [kontL, sl_cons, sl_nil, s_forR, x_bin, x_int, x_L, lz, ls, Option.getD_some, b_sub, List.cons_append, List.nil_append, List.length_cons, List.length_nil, Nat.reduceAdd]
  rw [show ((nsym : Nat) : Int) - (e : Nat) = ((nsym - e : Nat) : Int) by omega]
  generalize hN : nsym - e = N at *
  have hNs : N ≤ nsym := by omega
  refine for_zero (by omega) (fun K st => ∃ k1 k2 t, st = ⟨L [some (.ref a), some (.int (nsym : Nat)), some .none, some (.int (e : Nat)), some (.ref (hp.length + k1)), some (.ref (hp.length + k2)), some (.int 0), none, none, none, none, none, none], hp ++ t⟩ ∧
      t[k1]? = some (B (bm (fun n => s.getD n 0) K).1) ∧ t[k2]? = some (B (bm (fun n => s.getD n 0) K).2)) ⟨1, 3, _, rfl, rfl, rfl⟩ ?_ ?_
  · rintro K st ⟨k1, k2, t, rfl, hk, hk'⟩ hK
    refine cutK fun KK hKK => ?_
    obtain ⟨Ln, I⟩ := bm_all (N := N) hsy K (by omega)
    generalize hE : bm (fun n => s.getD n 0) K = EO at hk hk' I
    obtain ⟨E, Ol⟩ := EO
    have hEl : E.length = Ln + 1 := I.el
    have hOl : Ol.length = K - Ln + 1 := I.ol
    have hLK := I.le
    have hES : E.length ≤ SZ := by omega
    have hsS : s.length ≤ SZ := by omega
    have hE1 : 1 ≤ E.length := hEl ▸ Nat.le_add_left _ _
    have hmon : lead E = 1 := I.mon
    have hEne : E ≠ [] := fun h => by rw [h] at hEl; simp at hEl
    have l1 : k1 < t.length := (List.getElem?_eq_some_iff.mp hk).1
    have l2 : k2 < t.length := (List.getElem?_eq_some_iff.mp hk').1
    refine kn_L ?_
    simp only [sl_cons, sl_nil, kontL, s_iff, k_loc, t_none, s_assign, x_bin, x_idx, x_L, setL_z, setL_s, lz, ls, Option.getD_some, b_add, List.cons_append, List.nil_append, List.length_cons, List.length_nil, Nat.reduceAdd]
    rw [Int.add_zero]
    refine kn_L ?_
    simp only [setL_z, setL_s, kontL, sl_nil, sl_cons, s_assign, x_idx, x_L, lz, ls, Option.getD_some]
    refine idx_P (i := K) (get_app ha) (isN _) (by omega) (by omega) ?_
    refine kn_L ?_
    simp only [setL_z, setL_s, kontL, sl_cons, s_forR, x_int, x_bi, xl_cons, xl_nil, x_L, lz, ls, Option.getD_some, List.cons_append, List.nil_append, List.length_cons, List.length_nil, Nat.reduceAdd]
    refine len_P (by rw [get_new]; exact hk) (isB _) (by show E.length ≤ _; omega) ?_
    refine for_one (by show E.length ≤ _; omega) (fun j st => st = ⟨L [some (.ref a), some (.int (nsym : Nat)), some .none, some (.int (e : Nat)), some (.ref (hp.length + k1)), some (.ref (hp.length + k2)), some (.int 0), some (.int (K : Nat)), some (.int (K : Nat)), some (.int ((dsum (fun n => s.getD n 0) K E (j + 1)).val : Int)), none, none, none], hp ++ t⟩) ?_ ?_ ?_
    · refine st_eq ?_ rfl
      have : s.getD K 0 = dsum (fun n => s.getD n 0) K E (0 + 1) := by
        simp only [dsum, sumN, Nat.sub_zero]
        rw [lead_getD hEne, hmon]; grind
      rw [this]
    · rintro j st rfl hj
      have hj' : j + 1 < E.length := hj
      refine cutK fun KI hKI => as_L ?_
      simp only [setL_z, setL_s, sl_cons, sl_nil, List.cons_append, List.nil_append, List.length_cons, List.length_nil, Nat.reduceAdd]
      refine augL_P (i := ((dsum (fun n => s.getD n 0) K E (j + 1)).val : Int)) rfl ?_
      simp only [x_call, x_idx, x_neg, x_bin, x_int, xl_cons, xl_nil, x_L, lz, ls, Option.getD_some, b_add, b_sub, List.cons_append, List.nil_append, List.length_cons, List.length_nil, Nat.reduceAdd]
      rw [show -(((j + 1 : Nat) : Int) + 1) = -((j + 2 : Nat) : Int) by omega, show ((K : Nat) : Int) - ((j + 1 : Nat) : Int) = ((K - (j + 1) : Nat) : Int) by omega]
      refine idx_P_neg (p := E) (by rw [get_new]; exact hk) (isB _) (by omega) (by omega) (by omega) ?_
      refine idx_P (i := K - (j + 1)) (get_app ha) (isN _) (by omega) (by omega) ?_
      refine callK_P h4 ⟨_, _, rfl, T.app, ?_⟩
      rw [oneK]
      refine augLK_G (kn_L ?_)
      rw [sl_nil]
      refine hKI _ <| turnId (vs := [some (.ref a), some (.int (nsym : Nat)), some .none, some (.int (e : Nat)), some (.ref (hp.length + k1)), some (.ref (hp.length + k2)), some (.int 0), some (.int (K : Nat)), some (.int (K : Nat)), some (.int ((dsum (fun n => s.getD n 0) K E (j + 1 + 1)).val : Int)), none, none, none]) ?_ rfl
      have ed : dsum (fun n => s.getD n 0) K E (j + 1 + 1) = dsum (fun n => s.getD n 0) K E (j + 1) + E.getD (E.length - (j + 2)) 0 * s.getD (K - (j + 1)) 0 := by
        unfold dsum
        rw [sumN, show E.length - 1 - (j + 1) = E.length - (j + 2) by omega]
      rw [ed]
      (repeat' first | exact trivial | refine via_none ?_ | refine via_int rfl ?_ | refine via_non rfl ?_ | refine via_old (by omega) rfl ?_ | refine via_rng0 (by omega) rfl ?_ | refine via_rng (by omega) rfl ?_)
    · rintro st rfl
      have hdl : dsum (fun n => s.getD n 0) K E (E.length - 1 + 1) = bmDelta (fun n => s.getD n 0) K E := by
        rw [delta_sum _ _ _ (by omega), Nat.sub_add_cancel (by omega)]
      have hstep : bm (fun n => s.getD n 0) (K + 1) = bmStep (fun n => s.getD n 0) K (E, Ol) := by rw [bm, hE]
      rw [hdl]
      have hst : bmStep (fun n => s.getD n 0) K (E, Ol) = (if bmDelta (fun n => s.getD n 0) K E = 0 then (E, Ol ++ [0]) else if E.length < (Ol ++ [(0 : GF)]).length then (padd (scl (bmDelta (fun n => s.getD n 0) K E) (Ol ++ [0])) (scl (bmDelta (fun n => s.getD n 0) K E) (scl (inv (bmDelta (fun n => s.getD n 0) K E)) E)), scl (inv (bmDelta (fun n => s.getD n 0) K E)) E)
        else (padd E (scl (bmDelta (fun n => s.getD n 0) K E) (Ol ++ [0])), Ol ++ [0])) := rfl
      rw [hst] at hstep
      clear hst
      generalize bmDelta (fun n => s.getD n 0) K E = d at hstep
      simp only [kontL, sl_cons, sl_nil, s_assign, x_bin, x_bi, x_list, x_int, xl_cons, xl_nil, x_L, lz, ls, Option.getD_some]
      refine lkA _ rfl rfl rfl ?_
      refine ba_NA _ len1 (p := [0]) (by rw [get_new, List.getElem?_append_right (Nat.le_refl _), Nat.sub_self]; rfl) (by decide) ?_
      refine b_catBPA _ len2 (x := Ol) (y := [0]) (by rw [get_new, List.append_assoc, List.getElem?_append_left l2]; exact hk') ?_ (by simp; omega) (kn_L ?_)
      · rw [get_new, List.append_assoc, List.getElem?_append_right (Nat.le_add_right _ _), Nat.add_sub_cancel_left]; rfl
      rw [List.append_assoc, List.append_assoc]
      simp only [setL_z, setL_s, sl_cons, sl_nil, s_iff, k_cmp, x_int, x_L, lz, ls, Option.getD_some, c_ne, t_bool, List.cons_append, List.nil_append]
      have hE1 : (t ++ [O.nums [0], B [0], B (Ol ++ [0])])[k1]? = some (B E) := by rw [List.getElem?_append_left l1]; exact hk
      have hO1 : (t ++ [O.nums [0], B [0], B (Ol ++ [0])])[t.length + 2]? = some (B (Ol ++ [0])) := by rw [List.getElem?_append_right (by omega), Nat.add_sub_cancel_left]; rfl
      have hlen : (t ++ [O.nums [0], B [0], B (Ol ++ [0])]).length = t.length + 3 := by simp
      generalize t ++ [O.nums [0], B [0], B (Ol ++ [0])] = t1 at hE1 hO1 hlen
      generalize t.length + 2 = k3 at hO1
      have l1' : k1 < t1.length := (List.getElem?_eq_some_iff.mp hE1).1
      have l3' : k3 < t1.length := (List.getElem?_eq_some_iff.mp hO1).1
      have hOlen : (Ol ++ [(0 : GF)]).length = K - Ln + 2 := by simp [hOl]
      have hOS : (Ol ++ [(0 : GF)]).length ≤ SZ := by omega
      have hS1 : (scl d (Ol ++ [0])).length ≤ SZ := Nat.le_trans (Nat.le_of_eq (List.length_map _)) hOS
      by_cases hd : d = 0
      · rw [if_pos hd] at hstep
        have ed : decide ((d.val : Int) ≠ 0) = false := by rw [hd]; rfl
        rw [ed]
        refine hKK _ <| turnId (vs := [some (.ref a), some (.int (nsym : Nat)), some .none, some (.int (e : Nat)), some (.ref (hp.length + k1)), some (.ref (hp.length + k3)), some (.int 0), none, none, none, none, none, none]) ?_ ⟨k1, k3, _, rfl, ?_, ?_⟩
        · (repeat' first | exact trivial | refine via_none ?_ | refine via_int rfl ?_ | refine via_non rfl ?_ | refine via_old (by omega) rfl ?_ | refine via_rng0 (by omega) rfl ?_ | refine via_rng (by omega) rfl ?_)
        · rw [hstep]; exact hE1
        · rw [hstep]; exact hO1
      · rw [if_neg hd] at hstep
        have ed : decide ((d.val : Int) ≠ 0) = true := by
          rw [decide_eq_true_iff]
          exact fun h => hd (val_eq_zero.mp h)
        rw [ed]
        simp only [kontL, sl_cons, sl_nil, s_iff, k_cmp, x_bi, xl_cons, xl_nil, x_L, lz, ls, Option.getD_some, List.cons_append, List.nil_append, List.length_cons, List.length_nil, Nat.reduceAdd]
        refine len_P (by rw [get_new]; exact hO1) (isB _) (by omega) (len_P (by rw [get_new]; exact hE1) (isB _) (by omega) ?_)
        rw [c_gt, t_bool]
        by_cases hlt : E.length < (Ol ++ [(0 : GF)]).length
        · rw [if_pos hlt] at hstep
          have el : decide ((((Ol ++ [(0 : GF)]).length : Nat) : Int) > (E.length : Nat)) = true := by
            rw [decide_eq_true_iff]; omega
          rw [el]
          simp only [kontL, sl_cons, sl_nil, s_assign, x_call, xl_cons, xl_nil, x_L, lz, ls, Option.getD_some, List.cons_append, List.nil_append, List.length_cons, List.length_nil, Nat.reduceAdd]
          refine callK_P h7 ⟨hp.length + k3, B _, Ol ++ [0], d, by rw [get_new]; exact hO1, isB _, by omega, rfl, T.app, ?_⟩
          refine oneK_A _ rfl ?_
          refine kn_L ?_
          simp only [setL_z, setL_s, kontL, sl_cons, sl_nil, s_assign, x_call, xl_cons, xl_nil, x_L, lz, ls, Option.getD_some, List.cons_append, List.nil_append, List.length_cons, List.length_nil, Nat.reduceAdd]
          refine callK_P h3 ⟨d, hd, rfl, T.app, ?_⟩
          rw [oneK]
          refine callK_P h7 ⟨hp.length + k1, B _, E, inv d, by rw [get_new, List.getElem?_append_left l1']; exact hE1, isB _, by omega, rfl, T.app, ?_⟩
          refine oneK_A _ len1 (kn_L ?_)
          rw [List.append_assoc]
          simp only [setL_z, setL_s, sl_cons, sl_nil, s_assign, x_call, xl_cons, xl_nil, x_L, lz, ls, Option.getD_some, List.cons_append, List.nil_append]
          refine kn_L ?_
          simp only [setL_z, setL_s, kontL, sl_cons, sl_nil, s_assign, x_call, xl_cons, xl_nil, x_L, lz, ls, Option.getD_some, List.cons_append, List.nil_append]
          have g4 : (t1 ++ [B (scl d (Ol ++ [0])), B (scl (inv d) E)])[t1.length]? = some (B (scl d (Ol ++ [0]))) := by rw [List.getElem?_append_right (by omega), Nat.sub_self]; rfl
          have g5 : (t1 ++ [B (scl d (Ol ++ [0])), B (scl (inv d) E)])[t1.length + 1]? = some (B (scl (inv d) E)) := by rw [List.getElem?_append_right (by omega), Nat.add_sub_cancel_left]; rfl
          have hlen2 : (t1 ++ [B (scl d (Ol ++ [0])), B (scl (inv d) E)]).length = t1.length + 2 := by simp
          generalize t1 ++ [B (scl d (Ol ++ [0])), B (scl (inv d) E)] = t2 at g4 g5 hlen2
          generalize t1.length = k4 at g4 g5 hlen2
          have l4 : k4 < t2.length := (List.getElem?_eq_some_iff.mp g4).1
          have l5 : k4 + 1 < t2.length := (List.getElem?_eq_some_iff.mp g5).1
          have sl1 : (scl d (Ol ++ [0])).length = K - Ln + 2 := by simp only [scl, List.length_map]; exact hOlen
          have sl2 : (scl (inv d) E).length = Ln + 1 := by simp only [scl, List.length_map]; exact hEl
          have sl3 : (scl d (scl (inv d) E)).length = Ln + 1 := by simp only [scl, List.length_map]; exact hEl
          refine callK_P h7 ⟨hp.length + (k4 + 1), B _, scl (inv d) E, d, by rw [get_new]; exact g5, isB _, by omega, rfl, T.app, ?_⟩
          refine oneK_A _ rfl ?_
          refine callK_P h8 ⟨hp.length + k4, hp.length + t2.length, B _, scl d (Ol ++ [0]), scl d (scl (inv d) E), by rw [get_new, List.getElem?_append_left l4]; exact g4, by rw [get_new, List.getElem?_append_right (Nat.le_refl _), Nat.sub_self]; rfl, isB _, by omega, by omega, rfl, ?_⟩
          refine oneK_A _ len1 (kn_L ?_)
          rw [List.append_assoc, sl_nil]
          simp only [setL_z, setL_s, List.cons_append, List.nil_append]
          refine hKK _ <| turnId (vs := [some (.ref a), some (.int (nsym : Nat)), some .none, some (.int (e : Nat)), some (.ref (hp.length + (t2.length + 1))), some (.ref (hp.length + (k4 + 1))), some (.int 0), none, none, none, none, none, none]) ?_ ⟨t2.length + 1, k4 + 1, _, rfl, ?_, ?_⟩
          · have l6 : k4 + 1 < t2.length + 2 := by omega
            (repeat' first | exact trivial | refine via_none ?_ | refine via_int (by first | rfl | (simp [L_get]; done)) ?_ | refine via_bool rfl ?_ | refine via_non rfl ?_ | refine via_old (by first | assumption | omega) rfl ?_ | refine via_new0 rfl rfl ?_ | refine via_new rfl rfl ?_ | refine via_rng0 (by first | omega | (simp; done) | (simp; omega)) rfl ?_ | refine via_rng (by first | omega | (simp; done) | (simp; omega)) rfl ?_ | fail)
          · rw [hstep, List.getElem?_append_right (by omega), Nat.add_sub_cancel_left]; rfl
          · rw [hstep, List.getElem?_append_left l5]; exact g5
        · rw [if_neg hlt] at hstep
          have el : decide ((((Ol ++ [(0 : GF)]).length : Nat) : Int) > (E.length : Nat)) = false := by
            rw [decide_eq_false_iff_not]; omega
          rw [el]
          simp only [kontL, sl_cons, sl_nil, s_assign, x_call, xl_cons, xl_nil, x_L, lz, ls, Option.getD_some, List.cons_append, List.nil_append, List.length_cons, List.length_nil, Nat.reduceAdd]
          have sl1 : (scl d (Ol ++ [0])).length = K - Ln + 2 := by simp only [scl, List.length_map]; exact hOlen
          refine callK_P h7 ⟨hp.length + k3, B _, Ol ++ [0], d, by rw [get_new]; exact hO1, isB _, by omega, rfl, T.app, ?_⟩
          refine oneK_A _ rfl ?_
          refine callK_P h8 ⟨hp.length + k1, hp.length + t1.length, B _, E, scl d (Ol ++ [0]), by rw [get_new, List.getElem?_append_left l1']; exact hE1, by rw [get_new, List.getElem?_append_right (Nat.le_refl _), Nat.sub_self]; rfl, isB _, by omega, by omega, rfl, ?_⟩
          refine oneK_A _ len1 (kn_L ?_)
          rw [List.append_assoc, sl_nil]
          simp only [setL_z, setL_s, List.cons_append, List.nil_append]
          refine hKK _ <| turnId (vs := [some (.ref a), some (.int (nsym : Nat)), some .none, some (.int (e : Nat)), some (.ref (hp.length + (t1.length + 1))), some (.ref (hp.length + k3)), some (.int 0), none, none, none, none, none, none]) ?_ ⟨t1.length + 1, k3, _, rfl, ?_, ?_⟩
          · have l6 : k3 < t1.length + 2 := by omega
            (repeat' first | exact trivial | refine via_none ?_ | refine via_int (by first | rfl | (simp [L_get]; done)) ?_ | refine via_bool rfl ?_ | refine via_non rfl ?_ | refine via_old (by first | assumption | omega) rfl ?_ | refine via_new0 rfl rfl ?_ | refine via_new rfl rfl ?_ | refine via_rng0 (by first | omega | (simp; done) | (simp; omega)) rfl ?_ | refine via_rng (by first | omega | (simp; done) | (simp; omega)) rfl ?_ | fail)
          · rw [hstep, List.getElem?_append_right (by omega), Nat.add_sub_cancel_left]; rfl
          · rw [hstep, List.getElem?_append_left l3']; exact hO1
  · rintro st ⟨k1, k2, t, rfl, hk, -⟩
    obtain ⟨hl, -, hh⟩ := bm_end (s := fun n => s.getD n 0) (N := N) hsy hnd hk1 hk2 h2v
    generalize (bm (fun n => s.getD n 0) N).1 = E at hk hl hh q
    have hE1 : 1 ≤ E.length := by omega
    simp only [kontL, sl_cons, sl_nil, s_assign, x_bi, xl_cons, xl_nil, x_L, lz, ls, Option.getD_some, List.cons_append, List.nil_append, List.length_cons, List.length_nil, Nat.reduceAdd]
    refine lst_BA _ rfl (by rw [get_new]; exact hk) (by omega) (kn_L ?_)
    simp only [setL_z, setL_s, kontL, sl_cons, sl_nil, s_whil, List.cons_append, List.nil_append, List.length_cons, List.length_nil, Nat.reduceAdd]
    have g1 : (t ++ [Nm E])[t.length]? = some (Nm E) := by rw [List.getElem?_append_right (by omega), Nat.sub_self]; rfl
    generalize t ++ [Nm E] = t1 at g1
    generalize t.length = k at g1
    refine ⟨fun m st => st = ⟨L [some (.ref a), some (.int (nsym : Nat)), some .none, some (.int (e : Nat)), some (.ref (hp.length + k)), some (.ref (hp.length + k2)), some (.int 0), none, none, none, none, none, none], hp ++ t1⟩, ⟨0, rfl⟩, ?_⟩
    rintro m st rfl
    simp only [k_and, ca_cons, ca_nil, k_loc, k_cmp, x_idx, x_int, x_L, lz, ls, Option.getD_some, List.cons_append, List.nil_append]
    refine t_nums (by rw [get_new]; exact g1) (by rw [List.length_map]; omega) ?_
    have et : decide ((E.map fun a => (a.val : Int)) ≠ []) = true := by
      rw [decide_eq_true_iff]
      intro h
      have := congrArg List.length h
      simp at this
      rw [this] at hE1; simp at hE1
    rw [et]
    refine idx_P (i := 0) (by rw [get_new]; exact g1) (isN E) hE1 (by omega) ?_
    rw [c_eq, t_bool]
    have ez : decide (((E.getD 0 0).val : Int) = 0) = false := by
      rw [decide_eq_false_iff_not]
      intro h
      have h0 := val_eq_zero.mp h
      apply hh
      rw [List.head?_eq_getElem?, getD_some hE1, h0]
    rw [ez]
    simp only [kontL, sl_cons, sl_nil, s_assign, s_iff, k_cmp, x_bi, x_bin, x_int, xl_cons, xl_nil, x_L, lz, ls, Option.getD_some, List.cons_append, List.nil_append, List.length_cons, List.length_nil, Nat.reduceAdd]
    refine len_P (by rw [get_new]; exact g1) (isN E) (by omega) (kn_L ?_)
    simp only [setL_z, setL_s, kontL, sl_cons, sl_nil, s_iff, s_ret, kont_ret, k_cmp, x_bin, x_int, x_L, lz, ls, Option.getD_some, b_sub, b_mul, b_add, List.cons_append, List.nil_append, List.length_cons, List.length_nil, Nat.reduceAdd]
    refine ⟨by omega, by decide, ?_⟩
    rw [c_gt, t_bool]
    have eg : decide ((((E.length : Nat) : Int) - 1 - (e : Nat)) * 2 + (e : Nat) > (nsym : Nat)) = false := by
      rw [decide_eq_false_iff_not]; omega
    rw [eg]
    exact rets_ref g1 q
end Mine
end
section
open PySem PyProof.Rows
namespace Mine
local macro_rules | `(tactic| omega) => `(tactic| first | assumption | lia | omega +splitDisjunctions)
open P GF
noncomputable def encA (m : List GF) (n : Nat) : Nat → Nat → GF
  | 0, k => (m ++ zer n).getD k 0
  | i + 1, k => if i < k ∧ k ≤ i + n then encA m n i k + (gen n).getD (k - i) 0 * encA m n i i else encA m n i k
noncomputable def enc (m : List GF) (n : Nat) : List GF := m ++ tab n fun j => encA m n m.length (m.length + j)
theorem gen_ne' : ∀ n, n < 7 → ∀ j, j < 7 → j ≤ n → ((gen n).getD j 0).val ≠ 0 := by decide +kernel
theorem gen_ne {n j : Nat} (hn : n ≤ 6) (hj : j ≤ n) : (gen n).getD j 0 ≠ 0 := fun h => gen_ne' n (by omega) j (by omega) hj (by rw [h]; rfl)
inductive encS (us : List V) (hp : List O) (Q : Res → List O → Prop) : Prop
  | mk  a m n (h0 : hp[a]? = some (B m)) (h1 : 1 ≤ n) (h2 : n ≤ 6) (h3 : m.length ≤ 100) (h4 : us = [.ref a, .int (n : Nat)]) (h5 : Tab hp) (h6 : Q (.one (.ref hp.length)) (hp ++ [B (enc m n)]))
theorem c_is0 {hp : List O} {Q : QE} : wCmp .Is .none .none hp Q = Q (.bool true) hp := rfl
theorem tr_enc {Gf : Fns} {C : CallForm} (hG : Gf[12]? = some (C, genS)) {us hp Q} (h : encS us hp Q) : wSL Gf GS hp.length b_rs_encode_msg ⟨fun i => (us ++ [V.int 0, .int 2, .none])[i]?, hp⟩ (RetsV hp.length Q) := by
  obtain ⟨a, m, n, ha, hn1, hn, hm, rfl, T, q⟩ := h
  have la := lt_of_get ha
  have hSZ : (300 : Nat) ≤ SZ := by decide
  have hnS : n + 1 ≤ SZ := by omega
  have hmS : m.length ≤ SZ := by omega
  rw [L_pad _ 7]
  unfold b_rs_encode_msg
  simp only [sl_cons, s_iff, k_cmp, x_bin, x_bi, xl_nil, xl_cons, x_g2, x_L, List.map_cons, List.map_nil, rep_s, rep_z, List.cons_append, List.nil_append, lz, ls, Option.getD_some]
  refine len_P ha (isB _) (by omega) ?_
  rw [b_add, c_gt, t_bool]
  have e1 : decide (((m.length : Nat) : Int) + (n : Nat) > 255) = false := by rw [decide_eq_false_iff_not]; omega
  rw [e1]
  simp only [kontL, sl_cons, sl_nil, s_iff, s_assign, k_cmp, x_none, x_L, lz, ls, Option.getD_some, c_is0, t_bool, x_call, xl_cons, xl_nil, List.cons_append, List.nil_append, List.length_cons, List.length_nil, Nat.reduceAdd]
  refine callK_P hG ⟨n, by omega, rfl, T, ?_⟩
  rw [oneK]
  refine kn_L ?_
  simp only [setL_z, setL_s, kontL, sl_cons, sl_nil, s_assign, x_bi, xl_cons, xl_nil, x_L, lz, ls, Option.getD_some, List.cons_append, List.nil_append, List.length_cons, List.length_nil, Nat.reduceAdd]
  refine ba_PA 1 rfl (get_app ha) (isB _) (by omega) (kn_L ?_)
  simp only [setL_z, setL_s, kontL, sl_cons, sl_nil, s_assign, x_bin, x_int, x_bi, xl_cons, xl_nil, x_L, lz, ls, Option.getD_some, List.cons_append, List.nil_append, List.length_cons, List.length_nil, Nat.reduceAdd]
  refine ba_PA 2 rfl (p := m) (by rw [get_new]; rfl) (isB _) (by omega) ?_
  refine len_P (p := gen n) (by rw [get_new0]; rfl) (isB _) (by rw [gen_len]; omega) ?_
  rw [b_sub, gen_len, show ((n + 1 : Nat) : Int) - 1 = (n : Int) by omega]
  refine ba_intA 3 rfl (by omega) ?_
  refine b_catBPA 4 rfl (x := m) (y := zer n) (by rw [get_new]; rfl) (by rw [get_new]; rfl) (by simp [zer]; omega) (kn_L ?_)
  simp only [setL_z, setL_s, kontL, sl_cons, sl_nil, s_assign, x_bi, x_compR, xl_cons, xl_nil, x_L, lz, ls, Option.getD_some, List.cons_append, List.nil_append, List.length_cons, List.length_nil, Nat.reduceAdd]
  refine len_P (p := gen n) (by rw [get_new0]; rfl) (isB _) (by rw [gen_len]; omega) ?_
  refine compR_introA 5 rfl (fun i => (((gen n).getD i 0).log : Int)) (by rw [gen_len]; omega) (fun i hi => ?_) ?_
  · refine ax_L ?_
    simp only [x_idx, x_g0, x_L, setL_z, setL_s, lz, ls, Option.getD_some, List.cons_append, List.nil_append, List.length_cons, List.length_nil, Nat.reduceAdd]
    refine idx_P (p := gen n) (by rw [get_new0]; rfl) (isB _) hi (by rw [gen_len]; omega) ?_
    refine idx_log T.app (GF.val_lt _) ?_
    exact ⟨rfl, rfl⟩
  simp only [List.cons_append, List.nil_append]
  have e2 : O.nums ((List.range (gen n).length).map fun i => (((gen n).getD i 0).log : Int)) = .nums ((gen n).map fun x => (x.log : Int)) := by
    rw [range_getD (fun x : GF => (x.log : Int)) (gen n)]
  rw [e2]
  refine ba_IA 6 rfl (l := (gen n).map fun x => (x.log : Int)) (by rw [get_new]; rfl) (by rw [List.length_map, gen_len]; omega) (fun x hx => ?_) ?_
  · obtain ⟨y, _, rfl⟩ := List.mem_map.mp hx
    have := log_lt y
    exact ⟨by omega, by omega⟩
  rw [List.map_map, show (Int.toNat ∘ fun x : GF => (x.log : Int)) = GF.log from by funext x; simp]
  refine kn_L ?_
  simp only [setL_z, setL_s, kontL, sl_cons, sl_nil, s_forR, x_bi, x_int, xl_cons, xl_nil, x_L, lz, ls, Option.getD_some, List.cons_append, List.nil_append, List.length_cons, List.length_nil, Nat.reduceAdd]
  refine len_P (p := m) (by rw [get_new]; rfl) (isB _) (by omega) ?_
  generalize hM : m.length + n = M
  have hMS : M ≤ SZ := by omega
  generalize hX5 : O.nums ((gen n).map fun x => (x.log : Int)) = X5
  refine for_zero (by omega) (fun i st => st = ⟨L [some (.ref (hp.length + 1)), some (.int (n : Nat)), some (.int 0), some (.int 2), some (.ref hp.length), some (.ref (hp.length + 4)), some (.ref (hp.length + 6)), none, none, none, none, none],
    hp ++ [B (gen n), B m, B m, B (zer n), B (tab M (encA m n i)), X5, .bytes ((gen n).map GF.log)]⟩) ?_ ?_ ?_
  · refine st_eq rfl ?_
    have : m ++ zer n = tab M (encA m n 0) := eq_tab (by simp [zer]; omega) fun j _ => rfl
    rw [this]
  · rintro i st rfl hi
    refine cutK fun KK hKK => ?_
    refine as_L ?_
    simp only [sl_cons, sl_nil, kontL, s_assign, x_idx, x_L, setL_z, setL_s, lz, ls, Option.getD_some, List.cons_append, List.nil_append, List.length_cons, List.length_nil, Nat.reduceAdd]
    refine idx_P (p := tab M (encA m n i)) (by rw [get_new]; rfl) (isB _) (by rw [tab_len]; omega) (by rw [tab_len]; omega) ?_
    rw [tab_getD (by omega)]
    refine kn_L ?_
    simp only [setL_z, setL_s, sl_cons, sl_nil, kontL, s_iff, k_cmp, x_int, x_L, lz, ls, Option.getD_some, c_ne, t_bool, List.cons_append, List.nil_append, List.length_cons, List.length_nil, Nat.reduceAdd]
    have fin : ∀ x7 x8 x9 x10 f, (∀ k, k < M → f k = encA m n (i + 1) k) → KK .next ⟨L [some (.ref (hp.length + 1)), some (.int (n : Nat)), some (.int 0), some (.int 2), some (.ref hp.length), some (.ref (hp.length + 4)), some (.ref (hp.length + 6)), x7, x8, x9, x10, none],
        hp ++ [B (gen n), B m, B m, B (zer n), B (tab M f), X5, .bytes ((gen n).map GF.log)]⟩ := fun x7 x8 x9 x10 f hf => by
      rw [tab_ext hf]
      refine hKK _ <| turn (t' := [B (gen n), B m, B m, B (zer n), B (tab M (encA m n (i + 1))), X5, .bytes ((gen n).map GF.log)]) (vs := [some (.ref (hp.length + 1)), some (.int (n : Nat)), some (.int 0), some (.int 2), some (.ref hp.length), some (.ref (hp.length + 4)), some (.ref (hp.length + 6)), none, none, none, none, none]) [0, 1, 2, 3, 4, 5, 6] (by decide) rfl ?_ rfl
      (repeat' first | exact trivial | refine via_none ?_ | refine via_int rfl ?_ | refine via_bool rfl ?_ | refine via_non rfl ?_ | refine via_old (by omega) rfl ?_ | refine via_new0 rfl rfl ?_ | refine via_new rfl rfl ?_)
    by_cases hz : encA m n i i = 0
    · have ez : decide (((encA m n i i).val : Int) ≠ 0) = false := by rw [hz]; rfl
      rw [ez]
      refine fin _ _ _ _ _ fun k hk => ?_
      show _ = if i < k ∧ k ≤ i + n then _ else _
      split
      · rw [hz]; grind
      · rfl
    · have ez : decide (((encA m n i i).val : Int) ≠ 0) = true := by
        rw [decide_eq_true_iff]
        exact fun h => hz (val_eq_zero.mp h)
      rw [ez]
      simp only [sl_cons, sl_nil, kontL, s_assign, x_idx, x_g0, x_L, setL_z, setL_s, lz, ls, Option.getD_some, List.cons_append, List.nil_append, List.length_cons, List.length_nil, Nat.reduceAdd]
      refine idx_log T.app (GF.val_lt _) ?_
      refine kn_L ?_
      simp only [setL_z, setL_s, sl_cons, sl_nil, kontL, s_forR, x_int, x_bi, xl_cons, xl_nil, x_L, lz, ls, Option.getD_some, List.cons_append, List.nil_append, List.length_cons, List.length_nil, Nat.reduceAdd]
      refine len_P (p := gen n) (by rw [get_new0]; rfl) (isB _) (by rw [gen_len]; omega) ?_
      refine for_one (by rw [gen_len]; omega) (fun j st => ∃ x8 x10, st = ⟨L [some (.ref (hp.length + 1)), some (.int (n : Nat)), some (.int 0), some (.int 2), some (.ref hp.length), some (.ref (hp.length + 4)), some (.ref (hp.length + 6)), some (.int (i : Nat)), x8, some (.int ((encA m n i i).log : Nat)), x10, none],
        hp ++ [B (gen n), B m, B m, B (zer n), B (tab M fun k => if i < k ∧ k < i + 1 + j then encA m n i k + (gen n).getD (k - i) 0 * encA m n i i else encA m n i k), X5, .bytes ((gen n).map GF.log)]⟩) ⟨some (.int ((encA m n i i).val : Int)), none, ?_⟩ ?_ ?_
      · refine st_eq rfl ?_
        have : tab M (encA m n i) = tab M fun k => if i < k ∧ k < i + 1 + 0 then encA m n i k + (gen n).getD (k - i) 0 * encA m n i i else encA m n i k := tab_ext fun k _ => by rw [if_neg (by omega)]
        rw [this]
      · rintro j st ⟨y8, y10, rfl⟩ hj
        refine cutK fun KI hKI => ?_
        rw [gen_len] at hj
        refine as_L ?_
        simp only [setL_z, setL_s, sl_cons, sl_nil, kontL, s_augI, x_bin, x_L, lz, ls, Option.getD_some, b_add, List.cons_append, List.nil_append, List.length_cons, List.length_nil, Nat.reduceAdd]
        rw [← Int.natCast_add]
        have hk : i + (j + 1) < M := by omega
        refine aug_intro (Nat.le_add_right _ _) (by rw [get_new]; rfl) (x := GF.val _) (by rw [List.getElem?_map, tab_get hk]; rfl) (by rw [List.length_map, tab_len]; omega) ?_
        simp only [x_idx, x_bin, x_g1, x_L, lz, ls, Option.getD_some, List.cons_append, List.nil_append, List.length_cons, List.length_nil, Nat.reduceAdd]
        have hgj := gen_ne (j := j + 1) hn (by omega)
        refine idx_bytes (x := ((gen n).getD (j + 1) 0).log) (by rw [get_new]; rfl) (by rw [List.getElem?_map, getD_some (by rw [gen_len]; omega)]; rfl) (by rw [List.length_map, gen_len]; omega) ?_
        rw [b_add, ← Int.natCast_add]
        have l1 := log_lt (encA m n i i)
        have l2 := log_lt ((gen n).getD (j + 1) 0)
        refine idx_exp T.app (by omega) ?_
        rw [pw_log_mul hz hgj]
        refine ⟨Int.natCast_nonneg _, ?_, by rw [get_new]; rfl, ?_⟩
        · rw [Int.toNat_natCast]; exact G.xor_lt (GF.val_lt _) (GF.val_lt _)
        · rw [Int.toNat_natCast, ← val_add, set_new, kont_next, sl_nil]
          rw [← List.map_set, tab_set]
          refine hKI _ <| turn (t' := [B (gen n), B m, B m, B (zer n), B _, X5, .bytes ((gen n).map GF.log)]) (vs := [some (.ref (hp.length + 1)), some (.int (n : Nat)), some (.int 0), some (.int 2), some (.ref hp.length), some (.ref (hp.length + 4)), some (.ref (hp.length + 6)), some (.int (i : Nat)), none, some (.int ((encA m n i i).log : Nat)), none, none]) [0, 1, 2, 3, 4, 5, 6] (by decide) rfl ?_ ⟨none, none, st_eq rfl ?_⟩
          · (repeat' first | exact trivial | refine via_none ?_ | refine via_int rfl ?_ | refine via_bool rfl ?_ | refine via_non rfl ?_ | refine via_old (by omega) rfl ?_ | refine via_new0 rfl rfl ?_ | refine via_new rfl rfl ?_)
          · congr 5
            unfold B
            congr 2
            refine tab_ext fun k hk => ?_
            by_cases h1 : k = i + (j + 1)
            · subst h1
              rw [if_pos rfl, if_neg (by omega), if_pos (by omega), Nat.add_sub_cancel_left]
              grind
            · rw [if_neg h1]
              by_cases h2 : i < k ∧ k < i + 1 + j
              · rw [if_pos h2, if_pos (by omega)]
              · rw [if_neg h2, if_neg (by omega)]
      · rintro st ⟨y8, y10, rfl⟩
        rw [kont_next, sl_nil, kont_next, sl_nil]
        refine fin _ _ _ _ _ fun k hk => ?_
        rw [gen_len]
        show _ = if i < k ∧ k ≤ i + n then _ else _
        by_cases h2 : i < k ∧ k ≤ i + n
        · rw [if_pos h2, if_pos (by omega)]
        · rw [if_neg h2, if_neg (by omega)]
  · rintro st rfl
    simp only [kontL, sl_cons, sl_nil, s_setS, x_bi, x_none, xl_cons, xl_nil, x_L, lz, ls, Option.getD_some, List.cons_append, List.nil_append, List.length_cons, List.length_nil, Nat.reduceAdd]
    refine len_P (p := m) (by rw [get_new]; rfl) (isB _) (by omega) ?_
    refine setS_none (by omega) (by omega) (by rw [get_new]; rfl) (by rw [get_new]; rfl) (by rw [List.length_map, tab_len]; omega) (by simp) (by rw [List.length_map, tab_len]; omega) ?_
    rw [set_new]
    simp only [kontL, sl_cons, sl_nil, s_ret, kont_ret, x_L, lz, ls, Option.getD_some, List.set_cons_succ, List.set_cons_zero, List.cons_append, List.nil_append, List.length_cons, List.length_nil, Nat.reduceAdd]
    have ee : O.bytes (m.map GF.val ++ ((tab M (encA m n m.length)).map GF.val).drop m.length) = B (enc m n) := by
      unfold B enc
      rw [← List.map_drop, ← List.map_append]
      congr 3
      apply List.ext_getElem?
      intro k
      rw [List.getElem?_drop]
      rcases Nat.lt_or_ge k n with h | h
      · rw [tab_get h, tab_get (by omega)]
      · rw [List.getElem?_eq_none (by rw [tab_len]; omega), List.getElem?_eq_none (by rw [tab_len]; omega)]
    rw [ee]
    exact rets_ref (i := 4) rfl q
end Mine
end
section
open PySem PyProof.Rows
namespace Mine
local macro_rules | `(tactic| omega) => `(tactic| first | assumption | lia | omega +splitDisjunctions)
open P GF
noncomputable def tmpL (Xs : List GF) (i j : Nat) : List GF := ((List.range j).filter fun k => decide (k ≠ i)).map fun k => 1 + inv (Xs.getD i 0) * Xs.getD k 0
noncomputable def primeOf (Xs : List GF) (i : Nat) : GF := (tmpL Xs i Xs.length).foldl (· * ·) 1
theorem tmpL_succ (Xs : List GF) (i j : Nat) : tmpL Xs i (j + 1) = tmpL Xs i j ++ if j ≠ i then [1 + inv (Xs.getD i 0) * Xs.getD j 0] else [] := by
  unfold tmpL
  rw [List.range_succ, List.filter_append, List.map_append]
  congr 1
  by_cases h : j = i <;> simp [h]
theorem tmpL_len (Xs : List GF) (i j : Nat) : (tmpL Xs i j).length ≤ j := by
  unfold tmpL
  rw [List.length_map]
  exact Nat.le_trans (List.length_filter_le _ _) (by simp)
noncomputable def eSet (M : Nat) (ps : List Nat) (mg : Nat → GF) : Nat → List GF
  | 0 => zer M
  | i + 1 => (eSet M ps mg i).set (ps.getD i 0) (mg i)
theorem eSet_len {M : Nat} {ps : List Nat} {mg : Nat → GF} : ∀ i, (eSet M ps mg i).length = M
  | 0 => by simp [eSet, zer]
  | i + 1 => by rw [eSet, List.length_set, eSet_len i]
noncomputable def remOf (s : List GF) (cs : List Nat) : List GF := (pm (0 :: s).reverse (elocs cs)).drop ((pm (0 :: s).reverse (elocs cs)).length - (cs.length + 1))
noncomputable def magOf (s : List GF) (cs : List Nat) (i : Nat) : GF := (al (cs.getD i 0) * ev (remOf s cs) (inv (al (cs.getD i 0)))) * inv (primeOf (cs.map al) i)
inductive errS (us : List V) (hp : List O) (Q : Res → List O → Prop) : Prop
  | mk  a b c m s ps (h0 : hp[a]? = some (B m)) (h1 : hp[b]? = some (Nm (0 :: s))) (h2 : hp[c]? = some (intsO ps)) (h3 : 1 ≤ s.length) (h4 : s.length ≤ 100) (h5 : ps.length ≤ 100) (h6 : m.length ≤ 255) (h7 : (∀ p ∈ ps, p < m.length)) (h8 : (∀ i, i < ps.length → primeOf ((ps.map fun p => m.length - 1 - p).map al) i ≠ 0)) (h9 : us = [.ref a, .ref b, .ref c, .int 0, .int 2]) (h10 : Tab hp) (h11 : Q (.one (.ref hp.length)) (hp ++ [B (padd m (eSet m.length ps (magOf s (ps.map fun p => m.length - 1 - p)) ps.length))]))
theorem remOf_len (s : List GF) (cs : List Nat) : (remOf s cs).length = cs.length + 1 := by
  unfold remOf
  rw [List.length_drop, pm_length, elocs_len]
  simp only [List.length_reverse, List.length_cons]
  omega
theorem pow_one {hp : List O} {Q : Res → List O → Prop} {x : GF} (hx : x ≠ 0) (T : Tab hp) (q : Q (.one (.int x.val)) hp) : powS [.int x.val, .int 1] hp Q :=
  ⟨x, 1, by decide, rfl, T, by rw [powI_one hx]; exact q⟩
theorem pow_neg {hp : List O} {Q : Res → List O → Prop} {c : Nat} (hc : c ≤ 255) (T : Tab hp) (q : Q (.one (.int (al c).val)) hp) : powS [.int 2, .int (-(255 - (c : Int)))] hp Q :=
  ⟨al 1, -(255 - (c : Int)), by omega, by rw [al1], T, by rw [powI_neg hc]; exact q⟩
theorem slc_revBA {hp t : List O} {a : Nat} {p : List GF} {Q : QE} (k : Nat) (hk : t.length = k) (e : (hp ++ t)[a]? = some (B p)) (hs : p.length ≤ SZ) (q : Q (.ref (hp.length + k)) (hp ++ (t ++ [B p.reverse]))) : wSlc (.ref a) .none .none (.int (-1)) (hp ++ t) Q :=
  slc_revB e hs (by rw [ap_len hk, List.append_assoc]; exact q)
set_option maxHeartbeats 1000000 in
theorem tr_err {Gf : Fns} {C2 C3 C4 C5 C6 C8 C11 C15 C16 : CallForm} (h2 : Gf[2]? = some (C2, subS)) (h3 : Gf[3]? = some (C3, invS)) (h4 : Gf[4]? = some (C4, mulS)) (h5 : Gf[5]? = some (C5, divS)) (h6 : Gf[6]? = some (C6, powS)) (h8 : Gf[8]? = some (C8, addS))
    (h11 : Gf[11]? = some (C11, evalS)) (h15 : Gf[15]? = some (C15, locS)) (h16 : Gf[16]? = some (C16, evrS)) {us hp Q} (h : errS us hp Q) :
    wSL Gf GS hp.length b_rs_correct_errata ⟨fun i => us[i]?, hp⟩ (RetsV hp.length Q) := by
  obtain ⟨a, b, c, m, s, ps, ha, hb, hc, hs1, hs, hps, hm, hlt, hpr, rfl, T, q⟩ := h
  have la := lt_of_get ha
  have lb := lt_of_get hb
  have lc := lt_of_get hc
  have hSZ : (2000 : Nat) ≤ SZ := by decide
  have hcs : ∀ x ∈ ps.map (fun p => m.length - 1 - p), x ≤ 255 := fun x hx => by
    obtain ⟨p, _, rfl⟩ := List.mem_map.mp hx
    omega
  have hcl : (ps.map (fun p => m.length - 1 - p)).length = ps.length := List.length_map ..
  rw [L_pad _ 18]
  unfold b_rs_correct_errata
  simp only [sl_cons, s_assign, x_bi, xl_nil, xl_cons, x_L, List.map_cons, List.map_nil, rep_s, rep_z, List.cons_append, List.nil_append, lz, ls, Option.getD_some]
  refine ba_P ha (isB _) (by omega) ?_
  refine kn_L ?_
  simp only [setL_z, setL_s, kontL, sl_cons, s_assignC, x_compL, x_L, lz, ls, Option.getD_some, List.cons_append, List.nil_append, List.length_cons, List.length_nil, Nat.reduceAdd]
  refine compL_intro (get_app hc) (fun x => (m.length : Int) - 1 - x) (by rw [ints_len]; omega) (fun x hx => ?_) ?_
  · refine ax_L ?_
    simp only [x_bin, x_bi, x_int, xl_cons, xl_nil, x_L, setL_z, setL_s, lz, ls, Option.getD_some, List.cons_append, List.nil_append, List.length_cons, List.length_nil, Nat.reduceAdd]
    refine len_P (p := m) (by rw [get_new0]; rfl) (isB _) (by omega) ?_
    simp only [b_sub]
    exact ⟨rfl, rfl⟩
  have e0 : O.nums ((ps.map Int.ofNat).map fun x => (m.length : Int) - 1 - x) = intsO (ps.map fun p => m.length - 1 - p) := by
    unfold intsO
    rw [List.map_map, List.map_map]
    congr 1
    refine List.map_congr_left fun p hp => ?_
    have := hlt p hp
    show (m.length : Int) - 1 - (p : Int) = ((m.length - 1 - p : Nat) : Int)
    omega
  rw [e0]
  generalize hcsd : (ps.map fun p => m.length - 1 - p) = cs at hcs hcl hpr q
  refine kn_A _ rfl ?_
  simp only [setL_z, setL_s, kontL, sl_cons, s_assign, x_call, xl_nil, xl_cons, x_L, lz, ls, Option.getD_some, List.cons_append, List.nil_append, List.length_cons, List.length_nil, Nat.reduceAdd]
  refine callK_P h15 ⟨hp.length + 1, cs, by rw [get_new]; rfl, by omega, fun x hx => by have := hcs x hx; omega, rfl, T.app, fun oL hoL => ?_⟩
  refine oneK_A 2 rfl (kn_L ?_)
  simp only [setL_z, setL_s, kontL, sl_cons, s_assign, x_slc, x_call, x_neg, x_bin, x_bi, x_int, x_none, xl_nil, xl_cons, x_L, lz, ls, Option.getD_some, List.cons_append, List.nil_append, List.length_cons, List.length_nil, Nat.reduceAdd]
  refine slc_revA 3 rfl (get_app hb) (isN _) (by simp; omega) fun oS hoS => ?_
  simp only [List.cons_append, List.nil_append]
  refine len_P (p := elocs cs) (by rw [get_new]; rfl) hoL (by rw [elocs_len]; omega) ?_
  rw [b_sub, elocs_len, show ((cs.length + 1 : Nat) : Int) - 1 = ((cs.length : Nat) : Int) by omega]
  refine callK_P h16 ⟨hp.length + 3, hp.length + 2, oS, oL, (0 :: s).reverse, elocs cs, cs.length, by rw [get_new]; rfl, hoS, by rw [get_new]; rfl, hoL, by simp, elocs_len cs, by rw [elocs_len]; simp; omega, rfl, T.app, ?_, ?_⟩
  · rw [pm_length, elocs_len]; simp; omega
  refine oneK_A 4 rfl ?_
  change wSlc _ _ _ _ (hp ++ (_ ++ [B (remOf s cs)])) _
  have hRl := remOf_len s cs
  simp only [List.cons_append, List.nil_append]
  refine slc_revBA 5 rfl (p := remOf s cs) (by rw [get_new]; rfl) (by omega) (kn_L ?_)
  simp only [setL_z, setL_s, kontL, sl_cons, s_assign, s_forR, x_list, x_bi, x_int, xl_nil, xl_cons, x_L, lz, ls, Option.getD_some, List.cons_append, List.nil_append]
  refine lkA 6 rfl rfl rfl (kn_L ?_)
  simp only [setL_z, setL_s, sl_cons, s_forR, x_bi, x_int, xl_nil, xl_cons, x_L, lz, ls, Option.getD_some, List.cons_append, List.nil_append]
  refine len_ints (xs := cs) (by rw [get_new]; rfl) (by omega) ?_
  refine for_zero (by omega) (fun i st => st = ⟨L [some (.ref a), some (.ref b), some (.ref c), some (.int 0), some (.int 2), some (.ref hp.length), some (.ref (hp.length + 1)), some (.ref (hp.length + 2)), some (.ref (hp.length + 5)), some (.ref (hp.length + 6)), none, none, none, none, none, none, none, none, none, none, none, none, none],
    hp ++ [B m, intsO cs, oL, oS, B (remOf s cs), B (remOf s cs).reverse, Nm ((cs.take i).map al)]⟩) rfl ?_ ?_
  · rintro i st rfl hi
    refine cutK fun KK hKK => ?_
    have hci : cs[i]? = some cs[i] := List.getElem?_eq_getElem hi
    have hc5 := hcs cs[i] (List.getElem_mem hi)
    refine as_L ?_
    simp only [setL_z, setL_s, sl_cons, sl_nil, kontL, s_assign, x_bin, x_idx, x_g2, x_L, lz, ls, Option.getD_some, List.cons_append, List.nil_append, List.length_cons, List.length_nil, Nat.reduceAdd]
    refine idx_ints (xs := cs) (by rw [get_new]; rfl) hci (by omega) ?_
    rw [b_sub]
    refine kn_L ?_
    simp only [setL_z, setL_s, sl_cons, sl_nil, kontL, s_app, x_L, lz, ls, Option.getD_some, List.cons_append, List.nil_append, List.length_cons, List.length_nil, Nat.reduceAdd]
    refine app_intro (by rw [get_new]; rfl) ?_
    simp only [x_call, x_neg, xl_cons, xl_nil, x_L, lz, ls, Option.getD_some, List.cons_append, List.nil_append, List.length_cons, List.length_nil, Nat.reduceAdd]
    refine callK_P h6 (pow_neg hc5 T.app ?_)
    rw [oneK]
    refine appK_int (by omega) (by rw [get_new]; rfl) (by simp; omega) ?_
    rw [set_new, kont_next, sl_nil]
    refine hKK _ <| turn (t' := [B m, intsO cs, oL, oS, B (remOf s cs), B (remOf s cs).reverse, Nm ((cs.take (i + 1)).map al)]) (vs := [some (.ref a), some (.ref b), some (.ref c), some (.int 0), some (.int 2), some (.ref hp.length), some (.ref (hp.length + 1)), some (.ref (hp.length + 2)), some (.ref (hp.length + 5)), some (.ref (hp.length + 6)), none, none, none, none, none, none, none, none, none, none, none, none, none]) [0, 1, 2, 3, 4, 5, 6] (by decide) ?_ ?_ rfl
    · have e9 : Nm ((cs.take (i + 1)).map al) = .nums (((cs.take i).map al).map (fun a => (a.val : Int)) ++ [((al cs[i]).val : Int)]) := by
        rw [List.take_add_one, hci]
        unfold Nm
        rw [List.map_append, List.map_append]; rfl
      rw [e9]; rfl
    · (repeat' first | exact trivial | refine via_none ?_ | refine via_int rfl ?_ | refine via_bool rfl ?_ | refine via_non rfl ?_ | refine via_old (by omega) rfl ?_ | refine via_new0 rfl rfl ?_ | refine via_new rfl rfl ?_)
  · rintro st rfl
    rw [List.take_length]
    generalize hXs : cs.map al = Xs
    have hXl : Xs.length = cs.length := by rw [← hXs, List.length_map]
    simp only [setL_z, setL_s, kontL, sl_cons, s_assign, s_forE, x_bi, x_int, xl_nil, xl_cons, x_L, lz, ls, Option.getD_some, List.cons_append, List.nil_append, List.length_cons, List.length_nil, Nat.reduceAdd]
    refine len_P (p := m) (by rw [get_new0]; rfl) (isB _) (by omega) (ba_intA 7 rfl (by omega) (kn_L ?_))
    simp only [setL_z, setL_s, kontL, sl_cons, s_assign, s_forE, x_bi, x_int, xl_nil, xl_cons, x_L, lz, ls, Option.getD_some, List.cons_append, List.nil_append, List.length_cons, List.length_nil, Nat.reduceAdd]
    refine len_P (p := Xs) (by rw [get_new]; rfl) (isN _) (by omega) ?_
    rw [hXl]
    refine kn_L ?_
    simp only [setL_z, setL_s, sl_cons, s_forE, x_L, lz, ls, Option.getD_some]
    refine forE_own (i := 6) (xs := Xs.map fun a => (a.val : Int)) (t' := [B m, B (remOf s cs).reverse, B (zer m.length)])
      (vs := [some (.ref a), some (.ref b), some (.ref c), some (.int 0), some (.int 2), some (.ref (hp.length + 1)), none, none, some (.ref (hp.length + 2)), some (.ref hp.length), none, none, some (.ref (hp.length + 3)), some (.int (cs.length : Nat)), none, none, none, none, none, none, none, none, none])
      rfl (by rw [List.length_map]; omega) [0, 5, 7] (by decide) rfl (by (repeat' first | exact trivial | refine via_none ?_ | refine via_int rfl ?_ | refine via_bool rfl ?_ | refine via_non rfl ?_ | refine via_old (by omega) rfl ?_ | refine via_new0 rfl rfl ?_ | refine via_new rfl rfl ?_))
      (fun i st => st = ⟨L [some (.ref a), some (.ref b), some (.ref c), some (.int 0), some (.int 2), some (.ref (hp.length + 1)), none, none, some (.ref (hp.length + 2)), some (.ref hp.length), none, none, some (.ref (hp.length + 3)), some (.int (cs.length : Nat)), none, none, none, none, none, none, none, none, none],
        hp ++ [.nums (Xs.map fun a => (a.val : Int))] ++ [B m, B (remOf s cs).reverse, B (eSet m.length ps (magOf s cs) i)]⟩) rfl ?_ ?_
    · have hX1 : (hp ++ [O.nums (Xs.map fun a => (a.val : Int))])[hp.length]? = some (Nm Xs) := by rw [get_new0]; rfl
      have hc1 : (hp ++ [O.nums (Xs.map fun a => (a.val : Int))])[c]? = some (intsO ps) := get_app hc
      have T1 : Tab (hp ++ [O.nums (Xs.map fun a => (a.val : Int))]) := T.app
      have hl1 : (hp ++ [O.nums (Xs.map fun a => (a.val : Int))]).length = hp.length + 1 := by simp
      generalize (hp ++ [O.nums (Xs.map fun a => (a.val : Int))]) = hp1 at hX1 hc1 T1 hl1
      generalize hn : hp.length = n0 at *
      rintro i x st rfl hi
      refine cutK fun KK hKK => ?_
      rw [List.getElem?_map, Option.map_eq_some_iff] at hi
      obtain ⟨Xi, hXi, rfl⟩ := hi
      have hil : i < Xs.length := (List.getElem?_eq_some_iff.mp hXi).1
      have hXg : Xs.getD i 0 = Xi := by rw [List.getD_eq_getElem?_getD, hXi]; rfl
      have hcig : al (cs.getD i 0) = Xi := by
        rw [← hXs, List.getElem?_map, Option.map_eq_some_iff] at hXi
        obtain ⟨y, hy, rfl⟩ := hXi
        rw [List.getD_eq_getElem?_getD, hy]; rfl
      have hX0 : Xi ≠ 0 := by rw [← hcig]; exact al_ne _
      have hpi : ps[i]? = some (ps.getD i 0) := by
        have : i < ps.length := by omega
        rw [List.getD_eq_getElem?_getD, List.getElem?_eq_getElem this]; rfl
      have hpl : ps.getD i 0 < m.length := hlt _ (List.mem_of_getElem? hpi)
      have hpr1 := hpr i (by omega)
      generalize hEs : eSet m.length ps (magOf s cs) i = Es
      have hEl : Es.length = m.length := by rw [← hEs, eSet_len]
      have r5 : (V.ref (n0 + 1)) = .ref hp1.length := by rw [hl1]
      have r8 : (V.ref (n0 + 2)) = .ref (hp1.length + 1) := by rw [hl1]
      have r12 : (V.ref (n0 + 3)) = .ref (hp1.length + 2) := by rw [hl1]
      simp only [r5, r8, r12]
      have lX : n0 < hp1.length := by omega
      have la1 : a < hp1.length := by omega
      have lb1 : b < hp1.length := by omega
      have lc1 : c < hp1.length := by omega
      refine as_L2 ?_
      simp only [setL_z, setL_s, sl_cons, sl_nil, kontL, s_assign, x_call, x_list, xl_cons, xl_nil, x_L, lz, ls, Option.getD_some, List.cons_append, List.nil_append, List.length_cons, List.length_nil, Nat.reduceAdd]
      refine callK_P h3 ⟨Xi, hX0, rfl, T1.app, ?_⟩
      rw [oneK]
      refine kn_L ?_
      simp only [setL_z, setL_s, sl_cons, sl_nil, kontL, s_assign, s_forR, x_int, x_list, xl_cons, xl_nil, x_L, lz, ls, Option.getD_some, List.cons_append, List.nil_append]
      refine lkA 3 rfl rfl rfl (kn_L ?_)
      simp only [setL_z, setL_s, sl_cons, s_forR, x_int, x_L, lz, ls, Option.getD_some, List.cons_append, List.nil_append]
      refine for_zero (by omega) (fun j st => st = ⟨L [some (.ref a), some (.ref b), some (.ref c), some (.int 0), some (.int 2), some (.ref hp1.length), none, none, some (.ref (hp1.length + 1)), some (.ref n0), some (.int (i : Nat)), none, some (.ref (hp1.length + 2)), some (.int (cs.length : Nat)), some (.int (Xi.val : Int)), some (.int ((inv Xi).val : Int)), some (.ref (hp1.length + 3)), none, none, none, none, none, none],
        hp1 ++ [B m, B (remOf s cs).reverse, B Es, Nm (tmpL Xs i j)]⟩) rfl ?_ ?_
      · rintro j st rfl hj
        refine cutK fun KI hKI => ?_
        have hjX : j < Xs.length := by omega
        refine as_L ?_
        simp only [setL_z, setL_s, sl_cons, sl_nil, kontL, s_iff, k_cmp, x_L, lz, ls, Option.getD_some, c_ne, t_bool, List.cons_append, List.nil_append, List.length_cons, List.length_nil, Nat.reduceAdd]
        have fin : ∀ tl, tl = tmpL Xs i (j + 1) → KI .next ⟨L [some (.ref a), some (.ref b), some (.ref c), some (.int 0), some (.int 2), some (.ref hp1.length), none, none, some (.ref (hp1.length + 1)), some (.ref n0), some (.int (i : Nat)), none, some (.ref (hp1.length + 2)), some (.int (cs.length : Nat)), some (.int (Xi.val : Int)), some (.int ((inv Xi).val : Int)), some (.ref (hp1.length + 3)), some (.int (j : Nat)), none, none, none, none, none],
            hp1 ++ [B m, B (remOf s cs).reverse, B Es, Nm tl]⟩ := fun tl htl => by
          subst htl
          refine hKI _ <| turn (t' := [B m, B (remOf s cs).reverse, B Es, Nm (tmpL Xs i (j + 1))]) (vs := [some (.ref a), some (.ref b), some (.ref c), some (.int 0), some (.int 2), some (.ref hp1.length), none, none, some (.ref (hp1.length + 1)), some (.ref n0), some (.int (i : Nat)), none, some (.ref (hp1.length + 2)), some (.int (cs.length : Nat)), some (.int (Xi.val : Int)), some (.int ((inv Xi).val : Int)), some (.ref (hp1.length + 3)), none, none, none, none, none, none]) [0, 1, 2, 3] (by decide) rfl ?_ rfl
          (repeat' first | exact trivial | refine via_none ?_ | refine via_int rfl ?_ | refine via_bool rfl ?_ | refine via_non rfl ?_ | refine via_old (by omega) rfl ?_ | refine via_new0 rfl rfl ?_ | refine via_new rfl rfl ?_)
        by_cases hji : j = i
        · have ed : decide (((j : Nat) : Int) ≠ (i : Nat)) = false := by rw [decide_eq_false_iff_not]; omega
          rw [ed]
          exact fin _ (by rw [tmpL_succ, if_neg (by omega), List.append_nil])
        · have ed : decide (((j : Nat) : Int) ≠ (i : Nat)) = true := by rw [decide_eq_true_iff]; omega
          rw [ed]
          simp only [sl_cons, sl_nil, kontL, s_app, x_L, lz, ls, Option.getD_some, List.cons_append, List.nil_append, List.length_cons, List.length_nil, Nat.reduceAdd]
          refine app_intro (by rw [get_new]; rfl) ?_
          simp only [x_call, x_idx, x_int, xl_cons, xl_nil, x_L, lz, ls, Option.getD_some, List.cons_append, List.nil_append, List.length_cons, List.length_nil, Nat.reduceAdd]
          refine idx_P (p := Xs) (get_app hX1) (isN _) hjX (by omega) ?_
          refine callK_P h4 ⟨_, _, rfl, T1.app, ?_⟩
          rw [oneK]
          refine callK_P h2 ⟨1, _, rfl, ?_⟩
          rw [oneK]
          have := tmpL_len Xs i j
          refine appK_int (by omega) (by rw [get_new]; rfl) (by rw [List.length_map]; omega) ?_
          rw [set_new, kont_next, sl_nil]
          have e9 : O.nums ((tmpL Xs i j).map (fun a => (a.val : Int)) ++ [((1 + inv Xi * Xs.getD j 0).val : Int)]) = Nm (tmpL Xs i j ++ [1 + inv Xi * Xs.getD j 0]) := by
            unfold Nm; rw [List.map_append]; rfl
          rw [e9]
          exact fin _ (by rw [tmpL_succ, if_pos hji, hXg])
      · rintro st rfl
        rw [← hXl]
        have hprime : primeOf Xs i = (tmpL Xs i Xs.length).foldl (· * ·) 1 := rfl
        have htl := tmpL_len Xs i Xs.length
        generalize tmpL Xs i Xs.length = tl at hprime htl
        refine kn_L ?_
        simp only [setL_z, setL_s, sl_cons, sl_nil, kontL, s_assign, s_forL, x_int, x_L, lz, ls, Option.getD_some, List.cons_append, List.nil_append, List.length_cons, List.length_nil, Nat.reduceAdd]
        refine forL_own (i := 3) (xs := tl.map fun a => (a.val : Int)) (t' := [B m, B (remOf s cs).reverse, B Es])
          (vs := [some (.ref a), some (.ref b), some (.ref c), some (.int 0), some (.int 2), some (.ref (hp1.length + 1)), none, none, some (.ref (hp1.length + 2)), some (.ref n0), some (.int (i : Nat)), none, some (.ref (hp1.length + 3)), some (.int (Xs.length : Nat)), some (.int (Xi.val : Int)), some (.int ((inv Xi).val : Int)), none, none, some (.int 1), none, none, none, none])
          rfl (by rw [List.length_map]; omega) [0, 1, 2] (by decide) rfl (by (repeat' first | exact trivial | refine via_none ?_ | refine via_int rfl ?_ | refine via_bool rfl ?_ | refine via_non rfl ?_ | refine via_old (by omega) rfl ?_ | refine via_new0 rfl rfl ?_ | refine via_new rfl rfl ?_))
          (fun j st => st = ⟨L [some (.ref a), some (.ref b), some (.ref c), some (.int 0), some (.int 2), some (.ref (hp1.length + 1)), none, none, some (.ref (hp1.length + 2)), some (.ref n0), some (.int (i : Nat)), none, some (.ref (hp1.length + 3)), some (.int (Xs.length : Nat)), some (.int (Xi.val : Int)), some (.int ((inv Xi).val : Int)), none, none, some (.int (((tl.take j).foldl (· * ·) 1).val : Int)), none, none, none, none],
            hp1 ++ [.nums (tl.map fun a => (a.val : Int))] ++ [B m, B (remOf s cs).reverse, B Es]⟩) rfl ?_ ?_
        · rintro j y st rfl hj
          refine cutK fun KJ hKJ => ?_
          rw [List.getElem?_map, Option.map_eq_some_iff] at hj
          obtain ⟨y, hy, rfl⟩ := hj
          refine as_L ?_
          simp only [setL_z, setL_s, sl_cons, sl_nil, kontL, s_assign, x_call, xl_cons, xl_nil, x_L, lz, ls, Option.getD_some, List.cons_append, List.nil_append, List.length_cons, List.length_nil, Nat.reduceAdd]
          refine callK_P h4 ⟨_, _, rfl, T1.app.app, ?_⟩
          refine kn_L ?_
          rw [sl_nil]
          simp only [setL_z, setL_s]
          have ef : (tl.take (j + 1)).foldl (· * ·) 1 = (tl.take j).foldl (· * ·) 1 * y := by
            rw [List.take_add_one, hy, List.foldl_append]; rfl
          refine hKJ _ <| turn (t' := [B m, B (remOf s cs).reverse, B Es]) (vs := [some (.ref a), some (.ref b), some (.ref c), some (.int 0), some (.int 2), some (.ref (hp1.length + 1)), none, none, some (.ref (hp1.length + 2)), some (.ref n0), some (.int (i : Nat)), none, some (.ref (hp1.length + 3)), some (.int (Xs.length : Nat)), some (.int (Xi.val : Int)), some (.int ((inv Xi).val : Int)), none, none, some (.int (((tl.take (j + 1)).foldl (· * ·) 1).val : Int)), none, none, none, none]) [0, 1, 2] (by decide) rfl ?_ rfl
          rw [ef]
          have la2 : a < hp1.length + 1 := by omega
          have lb2 : b < hp1.length + 1 := by omega
          have lc2 : c < hp1.length + 1 := by omega
          have lX2 : n0 < hp1.length + 1 := by omega
          rw [List.length_append]; show Via (hp1.length + 1) _ _ _ _; (repeat' first | exact trivial | refine via_none ?_ | refine via_int (by first | rfl | (simp [L_get]; done)) ?_ | refine via_bool rfl ?_ | refine via_non rfl ?_ | refine via_old (by first | assumption | omega) rfl ?_ | refine via_new0 rfl rfl ?_ | refine via_new rfl rfl ?_ | refine via_rng0 (by first | omega | (simp; done) | (simp; omega)) rfl ?_ | refine via_rng (by first | omega | (simp; done) | (simp; omega)) rfl ?_ | refine via_at 0 rfl rfl rfl ?_ | refine via_at 1 rfl rfl rfl ?_ | refine via_at 2 rfl rfl rfl ?_ | fail)
        · rintro st rfl
          rw [List.length_map, List.take_length, ← hprime, List.append_assoc]
          rw [hXs] at hpr1
          have em : magOf s cs i = (Xi * ev (remOf s cs) (inv Xi)) * inv (primeOf Xs i) := by
            unfold magOf; rw [hcig, hXs]
          generalize primeOf Xs i = pr at hpr1 em
          simp only [setL_z, setL_s, sl_cons, sl_nil, kontL, s_iff, k_cmp, x_int, x_L, lz, ls, Option.getD_some, c_eq, t_bool, List.cons_append, List.nil_append, List.length_cons, List.length_nil, Nat.reduceAdd]
          have ed : decide ((pr.val : Int) = 0) = false := by
            rw [decide_eq_false_iff_not]
            exact fun h => hpr1 (val_eq_zero.mp h)
          rw [ed]
          simp only [setL_z, setL_s, sl_cons, sl_nil, kontL, s_assign, x_call, x_slc, x_neg, x_int, x_none, xl_cons, xl_nil, x_L, lz, ls, Option.getD_some, List.cons_append, List.nil_append, List.length_cons, List.length_nil, Nat.reduceAdd]
          refine slc_revBA 4 rfl (p := (remOf s cs).reverse) (by rw [get_new]; rfl) (by rw [List.length_reverse]; omega) ?_
          rw [List.reverse_reverse]
          simp only [setL_z, setL_s, sl_cons, sl_nil, kontL, s_assign, x_call, xl_cons, xl_nil, x_L, lz, ls, Option.getD_some, List.cons_append, List.nil_append, List.length_cons, List.length_nil, Nat.reduceAdd]
          refine callK_P h11 ⟨_, _, remOf s cs, inv Xi, by rw [get_new]; rfl, isB _, by omega, by omega, rfl, T1.app, ?_⟩
          rw [oneK]
          refine kn_L ?_
          simp only [setL_z, setL_s, sl_cons, sl_nil, kontL, s_assign, s_setI, x_call, x_bin, x_int, xl_cons, xl_nil, x_L, lz, ls, Option.getD_some, b_sub, List.cons_append, List.nil_append, List.length_cons, List.length_nil, Nat.reduceAdd]
          refine callK_P h6 (pow_one hX0 T1.app ?_)
          rw [oneK]
          refine callK_P h4 ⟨_, _, rfl, T1.app, ?_⟩
          rw [oneK]
          refine kn_L ?_
          simp only [setL_z, setL_s, sl_cons, sl_nil, kontL, s_assign, s_setI, x_idx, x_call, xl_cons, xl_nil, x_L, lz, ls, Option.getD_some, List.cons_append, List.nil_append, List.length_cons, List.length_nil, Nat.reduceAdd]
          refine callK_P h5 ⟨_, _, hpr1, rfl, T1.app, ?_⟩
          refine kn_L ?_
          simp only [setL_z, setL_s, sl_cons, sl_nil, s_setI, x_idx, x_L, lz, ls, Option.getD_some]
          refine idx_ints (get_app hc1) hpi (by omega) ?_
          refine st_bytes (by omega) (by rw [get_new]; rfl) (by rw [List.length_map, hEl]; exact hpl) (GF.val_lt _) (by rw [List.length_map]; omega) ?_
          rw [set_new, kont_next, sl_nil, ← List.map_set, ← em]
          have ee : Es.set (ps.getD i 0) (magOf s cs i) = eSet m.length ps (magOf s cs) (i + 1) := by rw [eSet, hEs]
          rw [ee]
          refine hKK _ <| turn (t' := [B m, B (remOf s cs).reverse, B (eSet m.length ps (magOf s cs) (i + 1))]) (vs := [some (.ref a), some (.ref b), some (.ref c), some (.int 0), some (.int 2), some (.ref hp1.length), none, none, some (.ref (hp1.length + 1)), some (.ref n0), none, none, some (.ref (hp1.length + 2)), some (.int (Xs.length : Nat)), none, none, none, none, none, none, none, none, none]) [1, 2, 3] (by decide) rfl ?_ (by rw [hl1, hXl])
          (repeat' first | exact trivial | refine via_none ?_ | refine via_int rfl ?_ | refine via_bool rfl ?_ | refine via_non rfl ?_ | refine via_old (by omega) rfl ?_ | refine via_new0 rfl rfl ?_ | refine via_new rfl rfl ?_)
    · rintro st rfl
      rw [List.length_map, hXl, hcl, List.append_assoc]
      simp only [setL_z, setL_s, sl_cons, sl_nil, kontL, s_assign, x_call, xl_cons, xl_nil, x_L, lz, ls, Option.getD_some, List.cons_append, List.nil_append, List.length_cons, List.length_nil, Nat.reduceAdd]
      refine callK_P h8 ⟨_, _, B _, m, eSet m.length ps (magOf s cs) ps.length, by rw [get_new]; rfl, by rw [get_new]; rfl, isB _, by omega, by rw [eSet_len]; omega, rfl, ?_⟩
      refine oneK_A 4 rfl (kn_L ?_)
      simp only [setL_z, setL_s, sl_cons, sl_nil, kontL, s_ret, kont_ret, x_L, lz, ls, Option.getD_some, List.cons_append, List.nil_append, List.length_cons, List.length_nil, Nat.reduceAdd]
      exact rets_ref (i := 4) rfl q
end Mine
end
section
namespace Mine
local macro_rules | `(tactic| omega) => `(tactic| first | assumption | lia | omega +splitDisjunctions)
open P GF
noncomputable def ml (X : GF) (g : Nat → GF) : Nat → GF
  | 0 => g 0
  | n + 1 => g (n + 1) + X * g n
noncomputable def mls (Xs : List GF) (g : Nat → GF) : Nat → GF := Xs.foldr ml g
theorem ml_comm (X Y : GF) (g : Nat → GF) : ml X (ml Y g) = ml Y (ml X g) := by
  funext n
  match n with
  | 0 => rfl
  | 1 => simp only [ml]; grind
  | n + 2 => simp only [ml]; grind
theorem mls_ml (X : GF) (g : Nat → GF) : ∀ Xs : List GF, mls Xs (ml X g) = ml X (mls Xs g)
  | [] => rfl
  | Y :: Xs => by
    show ml Y (mls Xs (ml X g)) = ml X (ml Y (mls Xs g))
    rw [mls_ml X g Xs, ml_comm]
theorem mls_mid (X : GF) (g : Nat → GF) (l2 : List GF) : ∀ l1 : List GF, mls (l1 ++ X :: l2) g = mls (l1 ++ l2) (ml X g)
  | [] => (mls_ml X g l2).symm
  | Y :: l1 => by
    show ml Y (mls (l1 ++ X :: l2) g) = ml Y (mls (l1 ++ l2) (ml X g))
    rw [mls_mid X g l2 l1]
theorem ml_add (X : GF) (f g : Nat → GF) : ml X (fun n => f n + g n) = fun n => ml X f n + ml X g n := by
  funext n
  match n with
  | 0 => rfl
  | n + 1 => simp only [ml]; grind
theorem ml_mul (X c : GF) (f : Nat → GF) : ml X (fun n => c * f n) = fun n => c * ml X f n := by
  funext n
  match n with
  | 0 => rfl
  | n + 1 => simp only [ml]; grind
theorem mls_add (f g : Nat → GF) : ∀ Xs : List GF, mls Xs (fun n => f n + g n) = fun n => mls Xs f n + mls Xs g n
  | [] => rfl
  | X :: Xs => by
    show ml X (mls Xs _) = _
    rw [mls_add f g Xs, ml_add]; rfl
theorem mls_mul (c : GF) (f : Nat → GF) : ∀ Xs : List GF, mls Xs (fun n => c * f n) = fun n => c * mls Xs f n
  | [] => rfl
  | X :: Xs => by
    show ml X (mls Xs _) = _
    rw [mls_mul c f Xs, ml_mul]; rfl
theorem ml_local (X : GF) {f g : Nat → GF} {N : Nat} (h : ∀ n, n ≤ N → f n = g n) : ∀ n, n ≤ N → ml X f n = ml X g n
  | 0, _ => h 0 (by omega)
  | n + 1, hn => by simp only [ml]; rw [h (n + 1) hn, h n (by omega)]
theorem cv_step (f : Nat → GF) (q : List GF) (X : GF) (hq : 1 ≤ q.length) (n : Nat) : cv f (pm q [1, X]) n = ml X (cv f q) n := by
  have hc : ∀ j, (pm q [1, X]).getD j 0 = q.getD j 0 + X * (if 1 ≤ j then q.getD (j - 1) 0 else 0) := fun j => by
    rcases Nat.lt_or_ge j (q.length + 1) with h | h
    · have : pm q [1, X] = tab (q.length + 1) (cs q [1, X]) := by unfold pm tab; simp
      rw [this, tab_getD h]
      show sumN 2 _ = _
      simp only [sumN, List.getD_cons_zero, List.getD_cons_succ, Nat.zero_le, if_true, Nat.sub_zero]
      grind
    · rw [getD_big (by rw [pm_length]; simp; omega), getD_big (p := q) (k := j) (by omega), if_pos (by omega), getD_big (p := q) (k := j - 1) (by omega)]
      grind
  have hl : (pm q [1, X]).length = q.length + 1 := by rw [pm_length]; simp
  have e1 : cv f (pm q [1, X]) n = sumN (q.length + 1) (fun j => q.getD j 0 * (if j ≤ n then f (n - j) else 0)) + X * sumN (q.length + 1) (fun j => (if 1 ≤ j then q.getD (j - 1) 0 else 0) * (if j ≤ n then f (n - j) else 0)) := by
    unfold cv
    rw [hl, ← sumN_mul, ← sumN_add]
    exact sumN_congr fun j _ => by rw [hc]; grind
  have e2 : sumN (q.length + 1) (fun j => q.getD j 0 * (if j ≤ n then f (n - j) else 0)) = cv f q n := by
    rw [sumN, getD_big (Nat.le_refl _)]
    unfold cv; grind
  have e3 : sumN (q.length + 1) (fun j => (if 1 ≤ j then q.getD (j - 1) 0 else 0) * (if j ≤ n then f (n - j) else 0)) = match n with | 0 => 0 | n + 1 => cv f q n := by
    rw [sumN_head]
    have : ∀ j, (if 1 ≤ j + 1 then q.getD (j + 1 - 1) 0 else 0) = q.getD j 0 := fun j => by rw [if_pos (by omega), Nat.add_sub_cancel]
    simp only [this]
    rw [if_neg (by omega)]
    match n with
    | 0 =>
      rw [sumN_zero fun i _ => by rw [if_neg (by omega)]; grind]; grind
    | n + 1 =>
      show _ = cv f q n
      unfold cv
      have e4 : sumN q.length (fun i => q.getD i 0 * (if i + 1 ≤ n + 1 then f (n + 1 - (i + 1)) else 0)) = sumN q.length fun j => q.getD j 0 * (if j ≤ n then f (n - j) else 0) := sumN_congr fun j _ => by
        congr 1
        by_cases h : j ≤ n
        · rw [if_pos h, if_pos (by omega), Nat.add_sub_add_right]
        · rw [if_neg h, if_neg (by omega)]
      rw [e4]; grind
  rw [e1, e2, e3]
  match n with
  | 0 => simp only [ml]; grind
  | n + 1 => simp only [ml]
theorem cv_one (f : Nat → GF) (n : Nat) : cv f [1] n = f n := by
  simp only [cv, List.length_cons, List.length_nil, sumN, List.getD_cons_zero, Nat.zero_le, if_true, Nat.sub_zero]; grind
theorem elocs_rev (cs : List Nat) (x : Nat) : (elocs (cs ++ [x])).reverse = pm (elocs cs).reverse [1, al x] := by
  rw [elocs_snoc, pm_reverse (by rw [elocs_len]; omega) (by simp)]; rfl
theorem mls_snoc (Xs : List GF) (X : GF) (g : Nat → GF) : mls (Xs ++ [X]) g = ml X (mls Xs g) := by
  rw [mls_mid, List.append_nil, mls_ml]
theorem cv_elocs (f : Nat → GF) (cs : List Nat) : cv f (elocs cs).reverse = mls (cs.map al) f := by
  have h : ∀ k cs, cs.length = k → cv f (elocs cs).reverse = mls (cs.map al) f := by
    intro k
    induction k with
    | zero =>
      intro cs hk
      have : cs = [] := List.length_eq_zero_iff.mp hk
      subst this
      funext n
      exact cv_one f n
    | succ k ih =>
      intro cs hk
      have hne : cs ≠ [] := by intro h; subst h; simp at hk
      obtain ⟨l, x, rfl⟩ : ∃ l x, cs = l ++ [x] := ⟨cs.dropLast, cs.getLast hne, (List.dropLast_concat_getLast hne).symm⟩
      have hl : l.length = k := by simpa using hk
      funext n
      rw [elocs_rev, cv_step f _ _ (by rw [List.length_reverse, elocs_len]; omega), ih l hl, List.map_append]
      show _ = mls (l.map al ++ [al x]) f n
      rw [mls_snoc]
  exact h _ cs rfl
noncomputable def Ev (N : Nat) (g : Nat → GF) (x : GF) : GF := sumN (N + 1) fun n => g n * x ^ n
theorem Ev_add (N : Nat) (f g : Nat → GF) (x : GF) : Ev N (fun n => f n + g n) x = Ev N f x + Ev N g x := by
  unfold Ev
  rw [← sumN_add]
  exact sumN_congr fun n _ => by grind
theorem Ev_mul (N : Nat) (c : GF) (f : Nat → GF) (x : GF) : Ev N (fun n => c * f n) x = c * Ev N f x := by
  unfold Ev
  rw [← sumN_mul]
  exact sumN_congr fun n _ => by grind
theorem Ev_ml {N d : Nat} (X : GF) {g : Nat → GF} (hg : ∀ n, d < n → g n = 0) (hd : d < N) (x : GF) : Ev N (ml X g) x = (1 + X * x) * Ev N g x := by
  have e1 : Ev N (ml X g) x = Ev N g x + X * x * sumN N fun n => g n * x ^ n := by
    unfold Ev
    rw [sumN_head, sumN_head (fun n => g n * x ^ n), ← sumN_mul]
    have : sumN N (fun i => ml X g (i + 1) * x ^ (i + 1)) = sumN N (fun i => g (i + 1) * x ^ (i + 1)) + sumN N (fun i => X * x * (g i * x ^ i)) := by
      rw [← sumN_add]
      refine sumN_congr fun i _ => ?_
      have e2 : x ^ (i + 1) = x ^ i * x := Lean.Grind.Semiring.pow_succ _ _
      rw [e2]; simp only [ml]; grind
    rw [this]; simp only [ml]; grind
  have e2 : Ev N g x = sumN N fun n => g n * x ^ n := by
    unfold Ev
    rw [sumN, hg N hd]; grind
  rw [e1, ← e2]; grind
noncomputable def prodX (x : GF) : List GF → GF
  | [] => 1
  | X :: Xs => (1 + X * x) * prodX x Xs
noncomputable def del1 : Nat → GF := fun n => if n = 1 then 1 else 0
theorem supp_mls : ∀ (Xs : List GF) (n : Nat), Xs.length + 1 < n → mls Xs del1 n = 0
  | [], n, h => by
    show del1 n = 0
    unfold del1; rw [if_neg (by simp at h; omega)]
  | X :: Xs, n, h => by
    simp only [List.length_cons] at h
    match n with
    | 0 => omega
    | n + 1 =>
      show mls Xs del1 (n + 1) + X * mls Xs del1 n = 0
      rw [supp_mls Xs (n + 1) (by omega), supp_mls Xs n (by omega)]; grind
theorem Ev_mls (x : GF) : ∀ (Xs : List GF) (N : Nat), Xs.length + 1 ≤ N → Ev N (mls Xs del1) x = x * prodX x Xs
  | [], N, h => by
    have h' : 1 ≤ N := h
    show sumN (N + 1) (fun n => del1 n * x ^ n) = x * 1
    obtain ⟨m, rfl⟩ := Nat.exists_eq_add_of_le h'
    rw [show 1 + m + 1 = 2 + m by omega, sumN_split]
    rw [sumN_zero (n := m) fun i _ => by unfold del1; rw [if_neg (by omega)]; grind]
    simp only [sumN, del1]
    have e : x ^ (1 : Nat) = x := by grind
    rw [if_neg (by omega), if_pos trivial, e]; grind
  | X :: Xs, N, h => by
    simp only [List.length_cons] at h
    show Ev N (ml X (mls Xs del1)) x = x * ((1 + X * x) * prodX x Xs)
    rw [Ev_ml X (supp_mls Xs) (by omega), Ev_mls x Xs N (by omega)]; grind
noncomputable def geo (X : GF) : Nat → GF
  | 0 => 0
  | n + 1 => X ^ n
theorem ml_geo (X : GF) : ml X (geo X) = del1 := by
  funext n
  match n with
  | 0 => rfl
  | 1 =>
    show X ^ 0 + X * 0 = 1
    grind
  | n + 2 =>
    show X ^ (n + 1) + X * X ^ n = del1 (n + 2)
    have e2 : X ^ (n + 1) = X ^ n * X := Lean.Grind.Semiring.pow_succ _ _
    rw [e2]
    unfold del1
    rw [if_neg (by omega)]; grind
theorem prodX_append (x : GF) (m : List GF) : ∀ l, prodX x (l ++ m) = prodX x l * prodX x m
  | [] => by simp only [List.nil_append, prodX]; grind
  | X :: l => by simp only [List.cons_append, prodX, prodX_append x m l]; grind
theorem prodX_zero {x X : GF} {l : List GF} (h : X ∈ l) (hx : X * x = 1) : prodX x l = 0 := by
  obtain ⟨a, b, rfl⟩ := List.append_of_mem h
  rw [prodX_append]
  simp only [prodX]
  rw [hx]; grind
noncomputable def fseq (ks : List (GF × GF)) : Nat → GF
  | 0 => 0
  | n + 1 => lf ks n [1]
theorem fseq_cons (k : GF × GF) (ks : List (GF × GF)) : fseq (k :: ks) = fun n => k.1 * geo k.2 n + fseq ks n := by
  funext n
  match n with
  | 0 => simp only [fseq, geo]; grind
  | n + 1 => simp only [fseq, geo, lf, evl]; grind
theorem Ev_geo {N : Nat} {x X : GF} {l1 l2 : List GF} (hN : l1.length + l2.length + 1 ≤ N) : Ev N (mls (l1 ++ X :: l2) (geo X)) x = x * prodX x (l1 ++ l2) := by
  rw [mls_mid, ml_geo, Ev_mls _ _ _ (by simp; omega)]
theorem Ev_others {N : Nat} {x Y : GF} (hx : Y * x = 1) (Xs : List GF) (hY : Y ∈ Xs) (hN : Xs.length ≤ N) : ∀ ks : List (GF × GF), (∀ k ∈ ks, k.2 ∈ Xs ∧ k.2 ≠ Y) → Ev N (mls Xs (fseq ks)) x = 0
  | [], _ => by
    have e : fseq [] = fun n => (0 : GF) * fseq [] n := by
      funext n
      match n with
      | 0 => simp only [fseq]; grind
      | n + 1 => simp only [fseq, lf]; grind
    rw [e, mls_mul, Ev_mul]; grind
  | k :: ks, h => by
    rw [fseq_cons, mls_add, Ev_add, mls_mul, Ev_mul, Ev_others hx Xs hY hN ks fun k' hk' => h k' (List.mem_cons_of_mem _ hk')]
    obtain ⟨hm, hne⟩ := h k List.mem_cons_self
    obtain ⟨l1, l2, rfl⟩ := List.append_of_mem hm
    rw [Ev_geo (by simp at hN; omega)]
    have : Y ∈ l1 ++ l2 := by
      simp only [List.mem_append, List.mem_cons] at hY ⊢
      rcases hY with h | h | h
      · exact .inl h
      · exact absurd h.symm hne
      · exact .inr h
    rw [prodX_zero this hx]; grind
theorem lf_swap (n : Nat) (p : List GF) (k : GF × GF) (l2 : List (GF × GF)) : ∀ l1, lf (l1 ++ k :: l2) n p = lf (k :: (l1 ++ l2)) n p
  | [] => rfl
  | j :: l1 => by
    simp only [List.cons_append, lf]
    rw [lf_swap n p k l2 l1]
    simp only [lf]; grind
theorem fseq_swap (k : GF × GF) (l1 l2 : List (GF × GF)) : fseq (l1 ++ k :: l2) = fseq (k :: (l1 ++ l2)) := by
  funext n
  match n with
  | 0 => rfl
  | n + 1 => exact lf_swap n [1] k l2 l1
theorem forney {N : Nat} {x : GF} {k : GF × GF} {l1 l2 : List (GF × GF)} (hx : k.2 * x = 1) (hnd : (xsOf (l1 ++ k :: l2)).Nodup) (hN : (l1 ++ k :: l2).length ≤ N) :
    Ev N (mls (xsOf (l1 ++ k :: l2)) (fseq (l1 ++ k :: l2))) x = k.1 * (x * prodX x (xsOf (l1 ++ l2))) := by
  have e : xsOf (l1 ++ k :: l2) = xsOf l1 ++ k.2 :: xsOf l2 := by simp [xsOf]
  have e' : xsOf (l1 ++ l2) = xsOf l1 ++ xsOf l2 := by simp [xsOf]
  have hlen : (xsOf l1).length + (xsOf l2).length + 1 ≤ N := by
    simp only [List.length_append, List.length_cons] at hN
    simp only [xsOf, List.length_map]; omega
  rw [fseq_swap, fseq_cons, mls_add, Ev_add, mls_mul, Ev_mul]
  rw [Ev_others hx (xsOf (l1 ++ k :: l2)) (by rw [e]; simp) (by simp only [xsOf, List.length_map]; exact hN) (l1 ++ l2) fun k' hk' => ?_]
  · rw [e, Ev_geo hlen, e']; grind
  · have hm : k'.2 ∈ xsOf l1 ++ xsOf l2 := by rw [← e']; exact List.mem_map.mpr ⟨k', hk', rfl⟩
    rw [e] at hnd ⊢
    refine ⟨?_, ?_⟩
    · simp only [List.mem_append, List.mem_cons] at hm ⊢
      rcases hm with h | h
      · exact .inl h
      · exact .inr (.inr h)
    · intro h
      rw [h] at hm
      rw [List.nodup_append, List.nodup_cons] at hnd
      rcases List.mem_append.mp hm with h | h
      · exact hnd.2.2 _ h _ List.mem_cons_self rfl
      · exact hnd.2.1.1 h
end Mine
end
section
namespace Mine
local macro_rules | `(tactic| omega) => `(tactic| first | assumption | lia | omega +splitDisjunctions)
open P GF
theorem ev_sum (x : GF) : ∀ p : List GF, ev p x = sumN p.length fun k => p.getD k 0 * x ^ (p.length - 1 - k)
  | [] => rfl
  | c :: p => by
    rw [ev_cons, List.length_cons, sumN_head, ev_sum x p]
    simp only [List.getD_cons_zero, List.getD_cons_succ, Nat.add_sub_cancel, Nat.sub_zero]
    congr 1
    exact sumN_congr fun k _ => by rw [show p.length - (k + 1) = p.length - 1 - k by omega]
theorem al_pow (n : Nat) : ∀ m, al n ^ m = al (n * m)
  | 0 => rfl
  | m + 1 => by
    have e2 : al n ^ (m + 1) = al n ^ m * al n := Lean.Grind.Semiring.pow_succ _ _
    rw [e2, al_pow n m, al_mul, Nat.mul_succ]
theorem al_inj {a b : Nat} (ha : a < 255) (hb : b < 255) (h : al a = al b) : a = b := by
  have := congrArg GF.log h
  rw [log_al, log_al, Nat.mod_eq_of_lt ha, Nat.mod_eq_of_lt hb] at this
  exact this
theorem sumN_one (c : GF) {k : Nat} : ∀ {M : Nat}, k < M → sumN M (fun j => if j = k then c else 0) = c
  | M + 1, h => by
    rw [sumN]
    by_cases hk : k = M
    · subst hk
      rw [sumN_zero fun i hi => if_neg (by omega), if_pos rfl]; grind
    · rw [sumN_one c (by omega), if_neg (Ne.symm hk)]; grind
noncomputable def psum (ps : List Nat) (f : Nat → GF) : GF := ps.foldr (fun p a => f p + a) 0
theorem psum_cons (p : Nat) (ps : List Nat) (f : Nat → GF) : psum (p :: ps) f = f p + psum ps f := rfl
theorem sum_supp (M : Nat) : ∀ (ps : List Nat) (f : Nat → GF), ps.Nodup → (∀ p ∈ ps, p < M) → (∀ k, k < M → k ∉ ps → f k = 0) → sumN M f = psum ps f
  | [], f, _, _, h => sumN_zero fun i hi => h i hi (by simp)
  | p :: ps, f, hn, hl, h => by
    obtain ⟨hp, hn⟩ := List.nodup_cons.mp hn
    have hpM := hl p List.mem_cons_self
    have e : sumN M f = sumN M (fun j => if j = p then f p else 0) + sumN M (fun j => if j = p then 0 else f j) := by
      rw [← sumN_add]
      refine sumN_congr fun j _ => ?_
      by_cases hj : j = p
      · subst hj; rw [if_pos rfl, if_pos rfl]; grind
      · rw [if_neg hj, if_neg hj]; grind
    rw [e, sumN_one _ hpM, psum_cons]
    congr 1
    rw [sum_supp M ps _ hn (fun q hq => hl q (List.mem_cons_of_mem _ hq)) fun k hk hkp => ?_]
    · have hc : ∀ l : List Nat, p ∉ l → psum l (fun j => if j = p then 0 else f j) = psum l f := by
        intro l
        induction l with
        | nil => intro _; rfl
        | cons q l ih =>
          intro hm
          rw [List.mem_cons, not_or] at hm
          rw [psum_cons, psum_cons, ih hm.2]
          rw [if_neg (Ne.symm hm.1)]
      exact hc ps hp
    · by_cases hkp' : k = p
      · rw [if_pos hkp']
      · rw [if_neg hkp']
        exact h k hk (by simp [hkp', hkp])
noncomputable def ksOf (M : Nat) (d : List GF) (ps : List Nat) : List (GF × GF) := ps.map fun p => (d.getD p 0, al (M - 1 - p))
theorem lf_ks (M : Nat) (d : List GF) (i : Nat) : ∀ ps : List Nat, lf (ksOf M d ps) i [1] = psum ps fun p => d.getD p 0 * al i ^ (M - 1 - p)
  | [] => rfl
  | p :: ps => by
    show d.getD p 0 * al (M - 1 - p) ^ i * evl [1] _ + lf (ksOf M d ps) i [1] = _
    rw [lf_ks M d i ps, psum_cons]
    have : evl [1] (al (M - 1 - p)) = 1 := by simp only [evl]; grind
    rw [this, al_pow, al_pow, Nat.mul_comm]; grind
theorem ev_lf {d : List GF} {ps : List Nat} (hn : ps.Nodup) (hl : ∀ p ∈ ps, p < d.length) (h : ∀ k, k < d.length → k ∉ ps → d.getD k 0 = 0) (i : Nat) : ev d (al i) = lf (ksOf d.length d ps) i [1] := by
  rw [ev_sum, lf_ks]
  exact sum_supp d.length ps (fun k => d.getD k 0 * al i ^ (d.length - 1 - k)) hn hl fun k hk hkp => by rw [h k hk hkp]; grind
theorem xs_ks (M : Nat) (d : List GF) (ps : List Nat) : xsOf (ksOf M d ps) = ps.map fun p => al (M - 1 - p) := by simp [xsOf, ksOf]
theorem xs_nodup {M : Nat} (hM : M ≤ 255) : ∀ {ps : List Nat}, ps.Nodup → (∀ p ∈ ps, p < M) → (ps.map fun p => al (M - 1 - p)).Nodup
  | [], _, _ => by simp
  | p :: ps, hn, hl => by
    obtain ⟨hp, hn⟩ := List.nodup_cons.mp hn
    rw [List.map_cons, List.nodup_cons]
    refine ⟨fun h => ?_, xs_nodup hM hn fun q hq => hl q (List.mem_cons_of_mem _ hq)⟩
    obtain ⟨q, hq, e⟩ := List.mem_map.mp h
    have h1 := hl p List.mem_cons_self
    have h2 := hl q (List.mem_cons_of_mem _ hq)
    have := al_inj (by omega) (by omega) e
    have : q = p := by omega
    subst this; exact hp hq
noncomputable def mulw (x : GF) (ks : List (GF × GF)) : List (GF × GF) := ks.map fun k => (k.1 * (k.2 + x), k.2)
theorem lf_mulw (x : GF) (j : Nat) : ∀ ks : List (GF × GF), lf (mulw x ks) j [1] = lf ks j [1] * x + lf ks (j + 1) [1]
  | [] => by simp only [mulw, List.map_nil, lf]; grind
  | k :: ks => by
    have := lf_mulw x j ks
    unfold mulw at this ⊢
    simp only [List.map_cons, lf, this]
    have e2 : k.2 ^ (j + 1) = k.2 ^ j * k.2 := Lean.Grind.Semiring.pow_succ _ _
    rw [e2]; grind
noncomputable def wts (c : GF) (y : GF) (xs : List GF) : GF := xs.foldl (fun a x => a * (y + x)) c
theorem forn_lf : ∀ (xs : List GF) (s : List GF) (ks : List (GF × GF)) (N : Nat), N ≤ s.length → (∀ j, j < N → s.getD j 0 = lf ks j [1]) →
    ∀ j, j + xs.length < N → (forn s xs).getD j 0 = lf (ks.map fun k => (wts k.1 k.2 xs, k.2)) j [1]
  | [], s, ks, N, _, h, j, hj => by
    have : (ks.map fun k => (wts k.1 k.2 [], k.2)) = ks := by
      have e : (fun k : GF × GF => (wts k.1 k.2 [], k.2)) = id := by funext k; rfl
      rw [e, List.map_id]
    rw [this]; exact h j (by simpa using hj)
  | x :: xs, s, ks, N, hN, h, j, hj => by
    simp only [List.length_cons] at hj
    show (forn (fst1 x s) xs).getD j 0 = _
    have := forn_lf xs (fst1 x s) (mulw x ks) (N - 1) (by rw [fst1_len]; omega) (fun j hj => ?_) j (by omega)
    · rw [this]
      unfold mulw
      rw [List.map_map]; rfl
    · unfold fst1
      rw [tab_getD (by omega), if_pos (by omega), lf_mulw, h j (by omega), h (j + 1) (by omega)]
theorem wts_zero_of : ∀ (xs : List GF) (y : GF), wts 0 y xs = 0
  | [], y => rfl
  | x :: xs, y => by
    show wts (0 * (y + x)) y xs = 0
    rw [zero_mul']; exact wts_zero_of xs y
theorem wts_zero {y : GF} : ∀ {xs : List GF} {c : GF}, y ∈ xs → wts c y xs = 0
  | x :: xs, c, h => by
    show wts (c * (y + x)) y xs = 0
    rcases List.mem_cons.mp h with rfl | h
    · rw [show c * (y + y) = 0 by grind]; exact wts_zero_of xs y
    · exact wts_zero h
theorem wts_ne {y : GF} : ∀ {xs : List GF} {c : GF}, c ≠ 0 → y ∉ xs → wts c y xs ≠ 0
  | [], c, h, _ => h
  | x :: xs, c, h, hy => by
    rw [List.mem_cons, not_or] at hy
    refine wts_ne (xs := xs) (c := c * (y + x)) (fun e => ?_) hy.2
    rcases mul_eq_zero e with e | e
    · exact h e
    · exact hy.1 (by grind)
theorem tmpL_mid (X : GF) (l1 l2 : List GF) : tmpL (l1 ++ X :: l2) l1.length (l1 ++ X :: l2).length = (l1 ++ l2).map fun x => 1 + inv X * x := by
  have hX : (l1 ++ X :: l2).getD l1.length 0 = X := by
    rw [List.getD_eq_getElem?_getD, List.getElem?_append_right (Nat.le_refl _), Nat.sub_self]; rfl
  have h1 : ∀ j, j ≤ l1.length → tmpL (l1 ++ X :: l2) l1.length j = (l1.take j).map fun x => 1 + inv X * x := by
    intro j
    induction j with
    | zero => intro _; rfl
    | succ j ih =>
      intro hj
      have e : (l1 ++ X :: l2).getD j 0 = l1.getD j 0 := by
        rw [List.getD_eq_getElem?_getD, List.getElem?_append_left (by omega), List.getD_eq_getElem?_getD]
      rw [tmpL_succ, ih (by omega), if_pos (by omega), hX, e, List.take_add_one, getD_some (by omega), List.map_append]; rfl
  have h2 : ∀ d, d ≤ l2.length → tmpL (l1 ++ X :: l2) l1.length (l1.length + 1 + d) = (l1 ++ l2.take d).map fun x => 1 + inv X * x := by
    intro d
    induction d with
    | zero =>
      intro _
      rw [Nat.add_zero, tmpL_succ, h1 _ (Nat.le_refl _), if_neg (by omega), List.append_nil, List.take_length, List.take_zero, List.append_nil]
    | succ d ih =>
      intro hd
      have e : (l1 ++ X :: l2).getD (l1.length + 1 + d) 0 = l2.getD d 0 := by
        rw [List.getD_eq_getElem?_getD, List.getElem?_append_right (by omega), show l1.length + 1 + d - l1.length = d + 1 by omega, List.getElem?_cons_succ, List.getD_eq_getElem?_getD]
      rw [← Nat.add_assoc, tmpL_succ, ih (by omega), if_pos (by omega), hX, e, List.take_add_one, getD_some (by omega), ← List.append_assoc, List.map_append (l₁ := l1 ++ l2.take d)]; rfl
  have := h2 l2.length (Nat.le_refl _)
  rw [List.take_length] at this
  rw [← this]
  congr 1
  simp; omega
theorem fold_prodX (y : GF) : ∀ (l : List GF) (c : GF), (l.map fun x => 1 + y * x).foldl (· * ·) c = c * prodX y l
  | [], c => by simp only [List.map_nil, List.foldl_nil, prodX]; grind
  | x :: l, c => by
    rw [List.map_cons, List.foldl_cons, fold_prodX y l]
    simp only [prodX]; grind
theorem prime_mid (X : GF) (l1 l2 : List GF) : primeOf (l1 ++ X :: l2) l1.length = prodX (inv X) (l1 ++ l2) := by
  unfold primeOf
  rw [tmpL_mid, fold_prodX]; grind
theorem prodX_ne {x : GF} : ∀ {l : List GF}, (∀ X ∈ l, X * x ≠ 1) → prodX x l ≠ 0
  | [], _ => by simp only [prodX]; decide
  | X :: l, h => by
    simp only [prodX]
    intro e
    rcases mul_eq_zero e with e | e
    · exact h X List.mem_cons_self (by grind)
    · exact prodX_ne (fun Y hY => h Y (List.mem_cons_of_mem _ hY)) e
theorem inv_uniq {X Y : GF} (hX : X ≠ 0) (h : Y * inv X = 1) : Y = X := by
  have := mul_inv hX
  have e : Y * (X * inv X) = X * (Y * inv X) := by grind
  rw [this, h] at e
  grind
theorem cv_local {f g : Nat → GF} {q : List GF} {n : Nat} (h : ∀ i, i ≤ n → f i = g i) : cv f q n = cv g q n := by
  unfold cv
  refine sumN_congr fun j _ => ?_
  congr 1
  by_cases hj : j ≤ n
  · rw [if_pos hj, if_pos hj, h _ (by omega)]
  · rw [if_neg hj, if_neg hj]
theorem take_tab {M N : Nat} {f : Nat → GF} (h : N ≤ M) : (tab M f).take N = tab N f := by
  unfold tab
  rw [← List.map_take, List.take_range, Nat.min_eq_left h]
theorem rem_Ev {s : List GF} {cs : List Nat} {f : Nat → GF} (hf : ∀ n, n ≤ cs.length → (0 :: s).getD n 0 = f n) (x : GF) : ev (remOf s cs) x = Ev cs.length (mls (cs.map al) f) x := by
  have hl : (pm (0 :: s).reverse (elocs cs)).length = s.length + cs.length + 1 := by
    rw [pm_length, elocs_len]; simp; omega
  have hl2 : (0 :: s).length + (elocs cs).reverse.length - 1 = s.length + cs.length + 1 := by
    rw [List.length_reverse, elocs_len, List.length_cons]; omega
  have e0 : (remOf s cs).reverse = tab (cs.length + 1) (P.cs (0 :: s) (elocs cs).reverse) := by
    unfold remOf
    rw [List.reverse_drop, hl, show s.length + cs.length + 1 - (s.length + cs.length + 1 - (cs.length + 1)) = cs.length + 1 by omega,
      pm_reverse (by simp) (by rw [elocs_len]; omega), List.reverse_reverse]
    have : pm (0 :: s) (elocs cs).reverse = tab (s.length + cs.length + 1) (P.cs (0 :: s) (elocs cs).reverse) := by
      unfold pm tab; rw [hl2]
    rw [this, take_tab (by omega)]
  rw [← evl_reverse, e0]
  show evl ((List.range (cs.length + 1)).map _) x = _
  rw [evl_map]
  unfold Ev
  refine sumN_congr fun n hn => ?_
  congr 1
  rw [← cv_elocs f cs]
  exact cv_local fun i hi => hf i (by omega)
theorem mag_ok {M : Nat} {d s : List GF} {ps : List Nat} (hM : M ≤ 255) (hn : ps.Nodup) (hl : ∀ p ∈ ps, p < M) (hs : ∀ j, j < s.length → s.getD j 0 = lf (ksOf M d ps) j [1]) (hps : ps.length ≤ s.length) {i : Nat} (hi : i < ps.length) :
    primeOf ((ps.map fun p => M - 1 - p).map al) i ≠ 0 ∧ magOf s (ps.map fun p => M - 1 - p) i = d.getD (ps.getD i 0) 0 := by
  have hpi : ps[i]? = some (ps.getD i 0) := by rw [List.getD_eq_getElem?_getD, List.getElem?_eq_getElem hi]; rfl
  obtain ⟨l1, l2, hsp, hl1⟩ : ∃ l1 l2, ps = l1 ++ ps.getD i 0 :: l2 ∧ l1.length = i := by
    refine ⟨ps.take i, ps.drop (i + 1), ?_, by simp; omega⟩
    rw [List.getD_eq_getElem?_getD, List.getElem?_eq_getElem hi]
    show ps = ps.take i ++ ps[i] :: ps.drop (i + 1)
    rw [← List.drop_eq_getElem_cons hi]
    exact (List.take_append_drop i ps).symm
  generalize ps.getD i 0 = p at hsp hpi
  have hX0 : al (M - 1 - p) ≠ 0 := al_ne _
  have hxx : al (M - 1 - p) * inv (al (M - 1 - p)) = 1 := mul_inv hX0
  have hks : ksOf M d ps = ksOf M d l1 ++ (d.getD p 0, al (M - 1 - p)) :: ksOf M d l2 := by rw [hsp]; simp [ksOf]
  have hxs : (ps.map fun p => M - 1 - p).map al = xsOf (ksOf M d ps) := by rw [xs_ks, List.map_map]; rfl
  have hnx : (xsOf (ksOf M d ps)).Nodup := by rw [xs_ks]; exact xs_nodup hM hn hl
  have hl1' : (xsOf (ksOf M d l1)).length = i := by simp [xsOf, ksOf, hl1]
  have hxsplit : xsOf (ksOf M d ps) = xsOf (ksOf M d l1) ++ al (M - 1 - p) :: xsOf (ksOf M d l2) := by rw [hks]; simp [xsOf]
  have hpr : primeOf ((ps.map fun p => M - 1 - p).map al) i = prodX (inv (al (M - 1 - p))) (xsOf (ksOf M d l1 ++ ksOf M d l2)) := by
    rw [hxs, hxsplit, ← hl1', prime_mid]; simp [xsOf]
  have hpn : prodX (inv (al (M - 1 - p))) (xsOf (ksOf M d l1 ++ ksOf M d l2)) ≠ 0 := prodX_ne fun Y hY e => by
    have hYX := inv_uniq hX0 e
    subst hYX
    rw [hxsplit, List.nodup_append, List.nodup_cons] at hnx
    have : al (M - 1 - p) ∈ xsOf (ksOf M d l1) ++ xsOf (ksOf M d l2) := by simpa [xsOf] using hY
    rcases List.mem_append.mp this with h | h
    · exact hnx.2.2 _ h _ List.mem_cons_self rfl
    · exact hnx.2.1.1 h
  refine ⟨by rw [hpr]; exact hpn, ?_⟩
  have hci : (ps.map fun p => M - 1 - p).getD i 0 = M - 1 - p := by
    rw [List.getD_eq_getElem?_getD, List.getElem?_map, hpi]; rfl
  unfold magOf
  rw [hci, hpr, rem_Ev (f := fseq (ksOf M d ps)) (fun n hn => ?_), hxs]
  · rw [List.length_map]
    have hN : (ksOf M d l1 ++ (d.getD p 0, al (M - 1 - p)) :: ksOf M d l2).length ≤ ps.length := by rw [← hks]; simp [ksOf]
    rw [hks] at hnx ⊢
    rw [forney (k := (d.getD p 0, al (M - 1 - p))) hxx hnx hN]
    have hm := mul_inv hpn
    generalize prodX (inv (al (M - 1 - p))) (xsOf (ksOf M d l1 ++ ksOf M d l2)) = pr at hm
    generalize inv pr = pri at hm
    show al (M - 1 - p) * (d.getD p 0 * (inv (al (M - 1 - p)) * pr)) * pri = d.getD p 0
    generalize inv (al (M - 1 - p)) = xi at hxx
    generalize al (M - 1 - p) = x at hxx
    have : x * (d.getD p 0 * (xi * pr)) * pri = d.getD p 0 * (x * xi) * (pr * pri) := by grind
    rw [this, hxx, hm]; grind
  · match n with
    | 0 => rfl
    | n + 1 =>
      rw [List.length_map] at hn
      rw [List.getD_cons_succ]
      exact hs n (by omega)
end Mine
end
section
namespace Mine
open P GF
structure Rcv (n : Nat) (w r : List GF) (ps qs : List Nat) : Prop where
  n1 : 1 ≤ n
  n6 : n ≤ 100
  len : r.length = w.length
  big : w.length ≤ 255
  nw : n ≤ w.length
  code : ∀ i, i < n → ev w (al i) = 0
  nodup : (ps ++ qs).Nodup
  lt : ∀ p ∈ ps ++ qs, p < w.length
  same : ∀ k, k < w.length → k ∉ ps ++ qs → r.getD k 0 = w.getD k 0
  wrong : ∀ q ∈ qs, r.getD q 0 ≠ w.getD q 0
  room : 2 * qs.length + ps.length ≤ n
section
variable {n : Nat} {w r : List GF} {ps qs : List Nat} (R : Rcv n w r ps qs)
include R
theorem Rcv.dlen : (zad r w).length = w.length := by simp [zad, R.len]
theorem Rcv.dget {k : Nat} (hk : k < w.length) : (zad r w).getD k 0 = r.getD k 0 + w.getD k 0 := by
  rw [zad_tab R.len, tab_getD (by rw [R.len]; exact hk)]
theorem Rcv.evd {i : Nat} (hi : i < n) : ev r (al i) = ev (zad r w) (al i) := by
  rw [ev_zad _ R.len, R.code i hi]; grind
theorem Rcv.syn {i : Nat} (hi : i < n) {qs' : List Nat} (hp : qs'.Perm qs) : ev r (al i) = lf (ksOf w.length (zad r w) (ps ++ qs')) i [1] := by
  have hp' : (ps ++ qs').Perm (ps ++ qs) := List.Perm.append_left ps hp
  rw [R.evd hi, ev_lf (ps := ps ++ qs') (hp'.nodup_iff.mpr R.nodup) (fun p h => by rw [R.dlen]; exact R.lt p (hp'.mem_iff.mp h)) (fun k hk h => ?_), R.dlen]
  rw [R.dlen] at hk
  rw [R.dget hk, R.same k hk (fun h' => h (hp'.mem_iff.mpr h'))]; grind
theorem Rcv.clean (h : ∀ i, i < n → ev r (al i) = 0) : r = w ∧ qs = [] := by
  have hks := vander (ks := ksOf w.length (zad r w) (ps ++ qs)) (by rw [xs_ks]; exact xs_nodup R.big R.nodup R.lt) (fun i hi => by
    have hin : i < n := by
      have := R.room
      simp only [ksOf, List.length_map, List.length_append] at hi
      omega
    rw [← R.syn hin (List.Perm.refl _)]; exact h i hin)
  have hz : ∀ k, k < w.length → r.getD k 0 = w.getD k 0 := fun k hk => by
    by_cases hm : k ∈ ps ++ qs
    · have : (zad r w).getD k 0 = 0 := hks ((zad r w).getD k 0, al (w.length - 1 - k)) (List.mem_map.mpr ⟨k, hm, rfl⟩)
      rw [R.dget hk] at this
      grind
    · exact R.same k hk hm
  refine ⟨?_, ?_⟩
  · rw [← tab_self r, ← tab_self w, R.len]
    exact tab_ext hz
  · induction hq : qs with
    | nil => rfl
    | cons q l =>
      have hm : q ∈ qs := by rw [hq]; exact List.mem_cons_self
      exact absurd (hz q (R.lt q (List.mem_append_right _ hm))) (R.wrong q hm)
noncomputable def kq (w r : List GF) (ps qs : List Nat) : List (GF × GF) := (ksOf w.length (zad r w) qs).map fun k => (wts k.1 k.2 (ps.map fun p => al (w.length - 1 - p)), k.2)
omit R in
theorem kq_xs (w r : List GF) (ps qs : List Nat) : xsOf (kq w r ps qs) = qs.map fun p => al (w.length - 1 - p) := by
  rw [← xs_ks w.length (zad r w) qs]; simp [xsOf, kq]
omit R in
theorem kq_len (w r : List GF) (ps qs : List Nat) : (kq w r ps qs).length = qs.length := by simp [kq, ksOf]
theorem Rcv.apart : ∀ q ∈ qs, al (w.length - 1 - q) ∉ ps.map fun p => al (w.length - 1 - p) := fun q hq h => by
  have := xs_nodup R.big R.nodup R.lt
  rw [List.map_append, List.nodup_append] at this
  exact this.2.2 _ h _ (List.mem_map.mpr ⟨q, hq, rfl⟩) rfl
theorem Rcv.forn_ok {m : Nat} (hm : m < n - ps.length) : (forn (Mine.syn r n) (ps.map fun p => al (w.length - 1 - p))).getD m 0 = lf (kq w r ps qs) m [1] := by
  rw [forn_lf _ (Mine.syn r n) (ksOf w.length (zad r w) (ps ++ qs)) n (by rw [syn_len]; omega) (fun j hj => ?_) m (by rw [List.length_map]; omega)]
  · have e : (ksOf w.length (zad r w) (ps ++ qs)).map (fun k => (wts k.1 k.2 (ps.map fun p => al (w.length - 1 - p)), k.2)) = (ksOf w.length (zad r w) ps).map (fun k => (wts k.1 k.2 (ps.map fun p => al (w.length - 1 - p)), k.2)) ++ kq w r ps qs := by
      simp [ksOf, kq]
    rw [e, lf_append, lf_all_zero fun k hk => ?_]
    · grind
    · obtain ⟨k', hk', rfl⟩ := List.mem_map.mp hk
      obtain ⟨p, hp, rfl⟩ := List.mem_map.mp hk'
      have hz : wts ((zad r w).getD p 0) (al (w.length - 1 - p)) (ps.map fun p => al (w.length - 1 - p)) = 0 := wts_zero (List.mem_map.mpr ⟨p, hp, rfl⟩)
      show wts ((zad r w).getD p 0) (al (w.length - 1 - p)) (ps.map fun p => al (w.length - 1 - p)) * _ = 0
      rw [hz]; grind
  · rw [← R.syn hj (List.Perm.refl _)]
    unfold Mine.syn
    rw [tab_getD hj]
theorem Rcv.bm_pre : (∀ m, m < n - ps.length → (forn (Mine.syn r n) (ps.map fun p => al (w.length - 1 - p))).getD m 0 = lf (kq w r ps qs) m [1]) ∧ (xsOf (kq w r ps qs)).Nodup ∧ (∀ k ∈ kq w r ps qs, k.1 ≠ 0) ∧ (∀ k ∈ kq w r ps qs, k.2 ≠ 0) ∧ 2 * (kq w r ps qs).length ≤ n - ps.length := by
  refine ⟨fun m hm => R.forn_ok hm, ?_, fun k hk => ?_, fun k hk => ?_, by rw [kq_len]; have := R.room; omega⟩
  · rw [kq_xs]
    exact xs_nodup R.big (List.nodup_append.mp R.nodup).2.1 fun q hq => R.lt q (List.mem_append_right _ hq)
  · obtain ⟨k', hk', rfl⟩ := List.mem_map.mp hk
    obtain ⟨q, hq, rfl⟩ := List.mem_map.mp hk'
    refine wts_ne ?_ (R.apart q hq)
    rw [R.dget (R.lt q (List.mem_append_right _ hq))]
    intro h
    exact R.wrong q hq (by grind)
  · obtain ⟨k', hk', rfl⟩ := List.mem_map.mp hk
    obtain ⟨q, hq, rfl⟩ := List.mem_map.mp hk'
    exact al_ne _
theorem Rcv.roots {E : List GF} (hE : ∀ x, evl E x = 0 ↔ x ∈ xsOf (kq w r ps qs)) : ((rootsOf E.reverse w.length).map fun i => w.length - 1 - i).Perm qs := by
  have hmem : ∀ i, i ∈ rootsOf E.reverse w.length ↔ i < w.length ∧ ∃ q ∈ qs, i = w.length - 1 - q := fun i => by
    unfold rootsOf
    rw [List.mem_filter, List.mem_range, decide_eq_true_iff, ev_reverse, hE, kq_xs, List.mem_map]
    refine and_congr_right fun hi => ⟨fun ⟨q, hq, e⟩ => ⟨q, hq, ?_⟩, fun ⟨q, hq, e⟩ => ⟨q, hq, by rw [e]⟩⟩
    have h1 := R.lt q (List.mem_append_right _ hq)
    have h2 := R.big
    exact (al_inj (by omega) (by omega) e).symm
  have hnd : (rootsOf E.reverse w.length).Nodup := List.nodup_range.sublist List.filter_sublist
  have hnd2 : ((rootsOf E.reverse w.length).map fun i => w.length - 1 - i).Nodup := by
    rw [List.nodup_iff_pairwise_ne, List.pairwise_map]
    refine (List.nodup_iff_pairwise_ne.mp hnd).imp_of_mem fun {a b} ha hb h e => h ?_
    have h1 := ((hmem a).mp ha).1
    have h2 := ((hmem b).mp hb).1
    omega
  have hq := (List.nodup_append.mp R.nodup).2.1
  refine (List.perm_ext_iff_of_nodup hnd2 hq).mpr fun q => ?_
  rw [List.mem_map]
  constructor
  · rintro ⟨i, hi, rfl⟩
    obtain ⟨h1, q, hq, rfl⟩ := (hmem i).mp hi
    have := R.lt q (List.mem_append_right _ hq)
    rw [show w.length - 1 - (w.length - 1 - q) = q by omega]; exact hq
  · intro hq
    have := R.lt q (List.mem_append_right _ hq)
    exact ⟨w.length - 1 - q, (hmem _).mpr ⟨by omega, q, hq, rfl⟩, by omega⟩
end
theorem eSet_get {M : Nat} {ps : List Nat} {mg : Nat → GF} (hn : ps.Nodup) (hl : ∀ p ∈ ps, p < M) : ∀ i, i ≤ ps.length → ∀ k, k < M → (eSet M ps mg i).getD k 0 = if k ∈ ps.take i then mg (ps.idxOf k) else 0
  | 0, _, k, hk => by
    rw [List.take_zero, if_neg (by simp)]
    show (zer M).getD k 0 = 0
    rw [zer_tab, tab_getD hk]
  | i + 1, hi, k, hk => by
    have hpi : ps[i]? = some (ps.getD i 0) := by rw [List.getD_eq_getElem?_getD, List.getElem?_eq_getElem (by omega)]; rfl
    have ih := eSet_get (mg := mg) hn hl i (by omega) k hk
    rw [eSet, List.getD_eq_getElem?_getD, List.getElem?_set, eSet_len]
    rw [List.take_add_one, hpi]
    by_cases h : ps.getD i 0 = k
    · rw [if_pos h, if_pos (by rw [h]; exact hk), if_pos (by rw [h]; simp)]
      subst h
      have : ps.idxOf (ps.getD i 0) = i := by
        have e : ps.getD i 0 = ps[i] := by rw [List.getD_eq_getElem?_getD, List.getElem?_eq_getElem (by omega)]; rfl
        rw [e]
        exact List.Nodup.idxOf_getElem hn i (by omega)
      rw [this]; rfl
    · rw [if_neg h, ← List.getD_eq_getElem?_getD, ih]
      have e : (k ∈ ps.take i ++ (some (ps.getD i 0)).toList) ↔ k ∈ ps.take i := by
        simp only [Option.toList, List.mem_append, List.mem_cons, List.not_mem_nil, or_false]
        exact ⟨fun h' => h'.elim id fun h'' => absurd h''.symm h, .inl⟩
      simp only [e]
theorem Rcv.mend {n : Nat} {w r : List GF} {ps qs qs' : List Nat} (R : Rcv n w r ps qs) (hp : qs'.Perm qs) :
    (∀ i, i < (ps ++ qs').length → primeOf (((ps ++ qs').map fun p => r.length - 1 - p).map al) i ≠ 0) ∧
    padd r (eSet r.length (ps ++ qs') (magOf (Mine.syn r n) ((ps ++ qs').map fun p => r.length - 1 - p)) (ps ++ qs').length) = w := by
  have hp' : (ps ++ qs').Perm (ps ++ qs) := List.Perm.append_left ps hp
  have hn := hp'.nodup_iff.mpr R.nodup
  have hl : ∀ p ∈ ps ++ qs', p < w.length := fun p h => R.lt p (hp'.mem_iff.mp h)
  have hlen : (ps ++ qs').length ≤ (Mine.syn r n).length := by
    rw [syn_len, hp'.length_eq]
    have := R.room
    simp; omega
  have hs : ∀ j, j < (Mine.syn r n).length → (Mine.syn r n).getD j 0 = lf (ksOf w.length (zad r w) (ps ++ qs')) j [1] := fun j hj => by
    rw [syn_len] at hj
    rw [← R.syn hj hp]
    unfold Mine.syn
    rw [tab_getD hj]
  have hm := fun i hi => mag_ok (i := i) (d := zad r w) R.big hn hl hs hlen hi
  rw [R.len]
  refine ⟨fun i hi => (hm i hi).1, ?_⟩
  have hel := eSet_len (M := w.length) (ps := ps ++ qs') (mg := magOf (Mine.syn r n) ((ps ++ qs').map fun p => w.length - 1 - p)) (ps ++ qs').length
  have hget := eSet_get (mg := magOf (Mine.syn r n) ((ps ++ qs').map fun p => w.length - 1 - p)) hn hl (ps ++ qs').length (Nat.le_refl _)
  generalize eSet w.length (ps ++ qs') (magOf (Mine.syn r n) ((ps ++ qs').map fun p => w.length - 1 - p)) (ps ++ qs').length = E at hel hget
  rw [← tab_self w]
  unfold padd
  rw [R.len, hel, Nat.max_self, Nat.sub_self]
  show zad ([] ++ r) ([] ++ E) = _
  rw [List.nil_append, List.nil_append, zad_tab (by rw [R.len, hel]), R.len]
  refine tab_ext fun k hk => ?_
  rw [hget k hk, List.take_length]
  by_cases hk' : k ∈ ps ++ qs'
  · rw [if_pos hk']
    have hi : (ps ++ qs').idxOf k < (ps ++ qs').length := List.idxOf_lt_length_of_mem hk'
    rw [(hm _ hi).2]
    have e : (ps ++ qs').getD ((ps ++ qs').idxOf k) 0 = k := by
      rw [List.getD_eq_getElem?_getD, List.getElem?_eq_getElem hi, List.getElem_idxOf]; rfl
    rw [e, R.dget hk]; grind
  · rw [if_neg hk', R.same k hk fun h => hk' (hp'.mem_iff.mpr h)]; grind
end Mine
end
section
namespace Mine
local macro_rules | `(tactic| omega) => `(tactic| first | assumption | lia | omega +splitDisjunctions)
open P GF
theorem gen_zero : ∀ n, (gen n).getD 0 0 = 1
  | 0 => rfl
  | n + 1 => by
    have : pm (gen n) [1, al n] = tab ((gen n).length + 1) (P.cs (gen n) [1, al n]) := by unfold pm tab; simp
    rw [gen, this, tab_getD (by omega)]
    show sumN 2 _ = _
    simp only [sumN, List.getD_cons_zero, List.getD_cons_succ, Nat.zero_le, if_true, Nat.sub_zero, gen_zero n]
    rw [if_neg (by omega)]; grind
theorem gen_root : ∀ n i, i < n → ev (gen n) (al i) = 0
  | n + 1, i, h => by
    rw [gen, ev_pm _ (by rw [gen_len]; omega) (by simp)]
    by_cases hi : i = n
    · subst hi
      have : ev [1, al i] (al i) = 0 := by
        rw [ev_cons, ev_cons, ev_nil]
        simp only [List.length_cons, List.length_nil]
        grind
      rw [this]; grind
    · rw [gen_root n i (by omega)]; grind
theorem ev_zer (n : Nat) (x : GF) : ev (zer n) x = 0 := by
  rw [ev_sum]
  exact sumN_zero fun k hk => by
    rw [zer_tab, tab_getD (by simpa [zer] using hk)]; grind
noncomputable def encU (m : List GF) (n i k : Nat) : GF := if k < i then 0 else encA m n i k
theorem encU_step (m : List GF) (n i k : Nat) : encU m n (i + 1) k = encU m n i k + if i ≤ k ∧ k ≤ i + n then (gen n).getD (k - i) 0 * encA m n i i else 0 := by
  unfold encU
  by_cases h1 : k < i
  · rw [if_pos (by omega), if_pos h1, if_neg (by omega)]; grind
  · by_cases h2 : k = i
    · subst h2
      rw [if_pos (by omega), if_neg (by omega), if_pos (by omega), Nat.sub_self, gen_zero]; grind
    · rw [if_neg (by omega), if_neg h1]
      show (if i < k ∧ k ≤ i + n then _ else _) = _
      by_cases h3 : k ≤ i + n
      · rw [if_pos (by omega), if_pos (by omega)]
      · rw [if_neg (by omega), if_neg (by omega)]; grind
theorem enc_sum {m : List GF} {n i : Nat} (hi : i < m.length) {x : GF} (hx : ev (gen n) x = 0) :
    sumN (m.length + n) (fun k => encU m n (i + 1) k * x ^ (m.length + n - 1 - k)) = sumN (m.length + n) fun k => encU m n i k * x ^ (m.length + n - 1 - k) := by
  have e : sumN (m.length + n) (fun k => encU m n (i + 1) k * x ^ (m.length + n - 1 - k)) = sumN (m.length + n) (fun k => encU m n i k * x ^ (m.length + n - 1 - k)) +
      sumN (m.length + n) fun k => (if i ≤ k ∧ k ≤ i + n then (gen n).getD (k - i) 0 * encA m n i i else 0) * x ^ (m.length + n - 1 - k) := by
    rw [← sumN_add]
    exact sumN_congr fun k _ => by rw [encU_step]; grind
  rw [e]
  obtain ⟨d, hd⟩ := Nat.exists_eq_add_of_le (show i + 1 ≤ m.length by omega)
  have hM : m.length + n = i + ((n + 1) + d) := by omega
  have e2 : sumN (m.length + n) (fun k => (if i ≤ k ∧ k ≤ i + n then (gen n).getD (k - i) 0 * encA m n i i else 0) * x ^ (m.length + n - 1 - k)) = encA m n i i * x ^ d * ev (gen n) x := by
    rw [hM, sumN_split, sumN_split]
    rw [sumN_zero (n := i) fun k hk => by rw [if_neg (by omega)]; grind]
    rw [sumN_zero (n := d) fun k hk => by rw [if_neg (by omega)]; grind]
    rw [ev_sum, gen_len, ← sumN_mul]
    have : sumN (n + 1) (fun k => (if i ≤ i + k ∧ i + k ≤ i + n then (gen n).getD (i + k - i) 0 * encA m n i i else 0) * x ^ (i + (n + 1 + d) - 1 - (i + k))) = sumN (n + 1) fun k => encA m n i i * x ^ d * ((gen n).getD k 0 * x ^ (n + 1 - 1 - k)) := sumN_congr fun k hk => by
      rw [if_pos (by omega), Nat.add_sub_cancel_left, show i + (n + 1 + d) - 1 - (i + k) = d + (n + 1 - 1 - k) by omega, P.pow_add]; grind
    rw [this]; grind
  rw [e2, hx]; grind
theorem enc_root {m : List GF} {n : Nat} {x : GF} (hx : ev (gen n) x = 0) : ev (enc m n) x = 0 := by
  have h : ∀ i, i ≤ m.length → sumN (m.length + n) (fun k => encU m n i k * x ^ (m.length + n - 1 - k)) = sumN (m.length + n) fun k => encU m n 0 k * x ^ (m.length + n - 1 - k) := by
    intro i
    induction i with
    | zero => intro _; rfl
    | succ i ih => intro hi; rw [enc_sum (by omega) hx, ih (by omega)]
  have h1 := h m.length (Nat.le_refl _)
  have e0 : sumN (m.length + n) (fun k => encU m n 0 k * x ^ (m.length + n - 1 - k)) = ev (m ++ zer n) x := by
    rw [ev_sum, show (m ++ zer n).length = m.length + n by simp [zer]]
    exact sumN_congr fun k _ => by unfold encU; rw [if_neg (by omega)]; rfl
  have e1 : sumN (m.length + n) (fun k => encU m n m.length k * x ^ (m.length + n - 1 - k)) = ev (tab n fun j => encA m n m.length (m.length + j)) x := by
    rw [sumN_split, sumN_zero (n := m.length) fun k hk => by unfold encU; rw [if_pos hk]; grind]
    rw [ev_sum, tab_len]
    have : sumN n (fun i => encU m n m.length (m.length + i) * x ^ (m.length + n - 1 - (m.length + i))) = sumN n fun k => (tab n fun j => encA m n m.length (m.length + j)).getD k 0 * x ^ (n - 1 - k) := sumN_congr fun k hk => by
      rw [tab_getD hk, show m.length + n - 1 - (m.length + k) = n - 1 - k by omega]
      unfold encU; rw [if_neg (by omega)]
    rw [this]; grind
  rw [e0, e1, ev_append, ev_zer] at h1
  unfold enc
  rw [ev_append, h1, tab_len]
  simp only [zer, List.length_replicate]
  grind
theorem enc_len (m : List GF) (n : Nat) : (enc m n).length = m.length + n := by unfold enc; rw [List.length_append, tab_len]
theorem enc_code {m : List GF} {n i : Nat} (hi : i < n) : ev (enc m n) (al i) = 0 := enc_root (gen_root n i hi)
end Mine
end
section
open PySem PyProof.Rows
namespace Mine
local macro_rules | `(tactic| omega) => `(tactic| first | assumption | lia | omega +splitDisjunctions)
open P GF
noncomputable def zeroed (r : List GF) (ps : List Nat) : List GF := ps.foldl (fun r p => r.set p 0) r
theorem zeroed_len : ∀ (ps : List Nat) (r : List GF), (zeroed r ps).length = r.length
  | [], r => rfl
  | p :: ps, r => by
    show (zeroed (r.set p 0) ps).length = _
    rw [zeroed_len ps, List.length_set]
theorem zeroed_get {k : Nat} : ∀ (ps : List Nat) (r : List GF), k ∉ ps → (zeroed r ps).getD k 0 = r.getD k 0
  | [], r, _ => rfl
  | p :: ps, r, h => by
    rw [List.mem_cons, not_or] at h
    show (zeroed (r.set p 0) ps).getD k 0 = _
    rw [zeroed_get ps _ h.2, List.getD_eq_getElem?_getD, List.getElem?_set, if_neg (Ne.symm h.1), List.getD_eq_getElem?_getD]
theorem zeroed_snoc (r : List GF) (ps : List Nat) (p : Nat) : zeroed r (ps ++ [p]) = (zeroed r ps).set p 0 := by
  unfold zeroed; rw [List.foldl_append]; rfl
noncomputable def corFull : List V → List V
  | [x, y, z] => [x, y, .int 0, .int 2, z, .bool false]
  | _ => []
inductive corS (us : List V) (hp : List O) (Q : Res → List O → Prop) : Prop
  | mk  a c r0 w ps qs n (h0 : hp[a]? = some (B r0)) (h1 : hp[c]? = some (intsO ps)) (h2 : Rcv n w (zeroed r0 ps) ps qs) (h3 : us = [.ref a, .int (n : Nat), .ref c]) (h4 : Tab hp) (h5 : (qs = [] → Q (.many true [.ref hp.length, .ref (hp.length + 1), .ref c]) (hp ++ [B (w.take (w.length - n)), B (w.drop (w.length - n))]))) (h6 : ∀ qs', qs'.Perm qs → Q (.many true [.ref hp.length, .ref (hp.length + 1), .ref (hp.length + 2)]) (hp ++ [B (w.take (w.length - n)), B (w.drop (w.length - n)), intsO (ps ++ qs')]))
theorem c_isR {hp : List O} {Q : QE} {c : Nat} : wCmp .Is (.ref c) .none hp Q = Q (.bool false) hp := rfl
theorem b_catI {a b : Nat} {x y : List Nat} {hp : List O} {Q : QE} (h1 : hp[a]? = some (intsO x)) (h2 : hp[b]? = some (intsO y)) (hs : x.length + y.length ≤ SZ) (q : Q (.ref hp.length) (hp ++ [intsO (x ++ y)])) : wBin .Add (.ref a) (.ref b) hp Q :=
  b_catN h1 h2 (by simpa using hs) (by rw [← List.map_append]; exact q)
theorem b_catIA {a b : Nat} {x y : List Nat} {hp t : List O} {Q : QE} (k : Nat) (hk : t.length = k) (h1 : (hp ++ t)[a]? = some (intsO x)) (h2 : (hp ++ t)[b]? = some (intsO y)) (hs : x.length + y.length ≤ SZ) (q : Q (.ref (hp.length + k)) (hp ++ (t ++ [intsO (x ++ y)]))) : wBin .Add (.ref a) (.ref b) (hp ++ t) Q :=
  b_catI h1 h2 hs (by rw [ap_len hk, List.append_assoc]; exact q)
theorem tr_cor {Gf : Fns} {C14 C17 C18 C19 C20 : CallForm} (h14 : Gf[14]? = some (C14, synS)) (h17 : Gf[17]? = some (C17, errS)) (h18 : Gf[18]? = some (C18, bmS)) (h19 : Gf[19]? = some (C19, findS)) (h20 : Gf[20]? = some (C20, fornS)) {us hp Q} (h : corS us hp Q) :
    wSL Gf GS hp.length b_rs_correct_msg ⟨fun i => (corFull us)[i]?, hp⟩ (RetsV hp.length Q) := by
  obtain ⟨a, c, r0, w, ps, qs, n, ha, hc, R, rfl, T, q1, q2⟩ := h
  have la := lt_of_get ha
  have lc := lt_of_get hc
  have hSZ : (2000 : Nat) ≤ SZ := by decide
  have hr0 : r0.length = w.length := by have := R.len; rwa [zeroed_len] at this
  have hbig := R.big
  have hroom := R.room
  have hn1 := R.n1
  have hn6 := R.n6
  have hnw := R.nw
  have hwS : w.length ≤ SZ := by omega
  have hpS : ps.length ≤ SZ := by omega
  have hnS : n + 1 ≤ SZ := by omega
  have hr0S : r0.length ≤ SZ := hr0 ▸ hwS
  rw [show (fun i => (corFull [V.ref a, .int (n : Nat), .ref c])[i]?) = L ([V.ref a, .int (n : Nat), .int 0, .int 2, .ref c, .bool false].map some ++ List.replicate 6 none) from L_pad _ 6]
  unfold b_rs_correct_msg
  simp only [sl_cons, s_iff, k_cmp, x_bi, x_g2, xl_cons, xl_nil, x_L, List.map_cons, List.map_nil, rep_s, rep_z, List.cons_append, List.nil_append, lz, ls, Option.getD_some]
  refine len_P ha (isB _) (by omega) ?_
  rw [c_gt, t_bool]
  have e1 : decide ((r0.length : Int) > 255) = false := by rw [decide_eq_false_iff_not]; omega
  rw [e1]
  simp only [kontL, sl_cons, sl_nil, s_assign, s_iff, k_cmp, x_bi, x_none, xl_cons, xl_nil, x_L, lz, ls, Option.getD_some, List.cons_append, List.nil_append, List.length_cons, List.length_nil, Nat.reduceAdd]
  refine ba_P ha (isB _) (by omega) ?_
  refine kn_L ?_
  simp only [setL_z, setL_s, kontL, sl_cons, sl_nil, s_assign, s_iff, s_forL, k_cmp, x_bi, x_none, xl_cons, xl_nil, x_L, lz, ls, Option.getD_some, c_isR, t_bool, List.cons_append, List.nil_append, List.length_cons, List.length_nil, Nat.reduceAdd]
  refine forL_arg (t' := [B r0]) (vs := [some (.ref a), some (.int (n : Nat)), some (.int 0), some (.int 2), some (.ref c), some (.bool false), some (.ref hp.length), none, none, none, none, none]) hc (by rw [ints_len]; omega) [0] (by decide) rfl (by (repeat' first | exact trivial | refine via_none ?_ | refine via_int rfl ?_ | refine via_bool rfl ?_ | refine via_non rfl ?_ | refine via_old (by omega) rfl ?_ | refine via_new0 rfl rfl ?_ | refine via_new rfl rfl ?_))
    (fun i st => st = ⟨L [some (.ref a), some (.int (n : Nat)), some (.int 0), some (.int 2), some (.ref c), some (.bool false), some (.ref hp.length), none, none, none, none, none], hp ++ [B (zeroed r0 (ps.take i))]⟩) rfl ?_ ?_
  · rintro i x st rfl hi
    refine cutK fun KK hKK => as_L ?_
    rw [List.getElem?_map, Option.map_eq_some_iff] at hi
    obtain ⟨p, hp', rfl⟩ := hi
    have hpw : p < w.length := R.lt p (List.mem_append_left _ (List.mem_of_getElem? hp'))
    simp only [setL_z, setL_s, kontL, sl_cons, sl_nil, s_setI, x_int, x_L, lz, ls, Option.getD_some, List.cons_append, List.nil_append, List.length_cons, List.length_nil, Nat.reduceAdd]
    refine st_bytes (x := 0) (j := p) (Nat.le_refl _) (by rw [get_new0]; rfl) (by rw [List.length_map, zeroed_len]; omega) (by decide) (by rw [List.length_map, zeroed_len]; omega) ?_
    rw [set_new0, List.set_cons_zero, kont_next, sl_nil, show (0 : Nat) = (0 : GF).val from rfl, ← List.map_set, ← zeroed_snoc]
    refine hKK _ <| turn (t' := [B (zeroed r0 (ps.take (i + 1)))]) (vs := [some (.ref a), some (.int (n : Nat)), some (.int 0), some (.int 2), some (.ref c), some (.bool false), some (.ref hp.length), none, none, none, none, none]) [0] (by decide) ?_ ?_ rfl
    · rw [List.take_add_one, hp']; rfl
    · (repeat' first | exact trivial | refine via_none ?_ | refine via_int rfl ?_ | refine via_bool rfl ?_ | refine via_non rfl ?_ | refine via_old (by omega) rfl ?_ | refine via_new0 rfl rfl ?_ | refine via_new rfl rfl ?_)
  rintro st rfl
  rw [ints_len, List.take_length]
  generalize zeroed r0 ps = r at R
  have hrl := R.len
  have hrS : r.length ≤ SZ := hrl ▸ hwS
  have hr255 : r.length ≤ 255 := hrl ▸ hbig
  simp only [kontL, sl_cons, sl_nil, s_iff, k_cmp, x_bi, xl_cons, xl_nil, x_L, lz, ls, Option.getD_some, List.cons_append, List.nil_append, List.length_cons, List.length_nil, Nat.reduceAdd]
  refine len_ints (get_app hc) (by omega) ?_
  rw [c_gt, t_bool]
  have e2 : decide ((ps.length : Int) > (n : Nat)) = false := by rw [decide_eq_false_iff_not]; omega
  rw [e2]
  simp only [kontL, sl_cons, sl_nil, s_assign, x_call, xl_cons, xl_nil, x_L, lz, ls, Option.getD_some, List.cons_append, List.nil_append, List.length_cons, List.length_nil, Nat.reduceAdd]
  refine callK_P h14 ⟨hp.length, B r, r, n, by rw [get_new0]; rfl, isB _, by omega, by omega, by omega, rfl, T.app, ?_⟩
  refine oneK_A 1 rfl (kn_L ?_)
  simp only [setL_z, setL_s, kontL, sl_cons, sl_nil, s_iff, k_cmp, x_bi, x_int, xl_cons, xl_nil, x_L, lz, ls, Option.getD_some, List.cons_append, List.nil_append, List.length_cons, List.length_nil, Nat.reduceAdd]
  refine max_N (p := 0 :: syn r n) (by rw [get_new]; rfl) (by simp) (by simp [syn_len]; omega) fun m _ hm => ?_
  rw [c_eq, t_bool]
  by_cases hz : (m.val : Int) = 0
  · have hcl := syn_zero.mp (hm.mp hz)
    obtain ⟨hrw, hq0⟩ := R.clean hcl
    subst hrw
    rw [decide_eq_true hz]
    simp only [kontL, sl_cons, sl_nil, s_retM, x_slc, x_neg, x_none, xl_cons, xl_nil, x_L, lz, ls, Option.getD_some, List.cons_append, List.nil_append, List.length_cons, List.length_nil, Nat.reduceAdd]
    refine slc_BA 2 rfl (p := r) (by rw [get_new0]; rfl) rfl rfl (by omega) ?_
    refine slc_BA 3 rfl (p := r) (by rw [get_new0]; rfl) rfl rfl (by omega) ⟨show 3 ≤ SZ by decide, ?_⟩
    simp only [kont_ret, List.cons_append, List.nil_append]
    rw [slice_to r hn1, slice_from r hn1]
    refine rets_many (us := [.ref hp.length, .ref (hp.length + 1), .ref c]) (t' := [B _, B _]) [2, 3] (by decide) rfl ?_ ?_ (q1 hq0)
    · simp [viaV, lc]
    · simp [OkV]; omega
  · rw [decide_eq_false hz]
    obtain ⟨p1, p2, p3, p4, p5⟩ := R.bm_pre
    obtain ⟨b1, b2, -⟩ := bm_end p1 p2 p3 p4 p5
    have hforn : forn (syn r n) (ps.map fun p => al (r.length - 1 - p)) = forn (syn r n) (ps.map fun p => al (w.length - 1 - p)) := by rw [hrl]
    simp only [kontL, sl_cons, sl_nil, s_iff, k_loc, t_bool, s_assign, x_call, x_bi, xl_cons, xl_nil, x_L, lz, ls, Option.getD_some, List.cons_append, List.nil_append, List.length_cons, List.length_nil, Nat.reduceAdd]
    refine len_P (p := r) (by rw [get_new0]; rfl) (isB _) (by omega) ?_
    refine callK_P h20 ⟨hp.length + 1, c, syn r n, ps, r.length, by rw [get_new]; rfl, get_app hc, by rw [syn_len]; omega, by rw [syn_len]; omega, by omega, by omega, fun p h => by rw [hrl]; exact R.lt p (List.mem_append_left _ h), rfl, T.app, ?_⟩
    rw [hforn]
    refine oneK_A 2 rfl (kn_L ?_)
    simp only [setL_z, setL_s, kontL, sl_cons, sl_nil, s_assign, x_call, x_bi, xl_cons, xl_nil, x_L, lz, ls, Option.getD_some, List.cons_append, List.nil_append, List.length_cons, List.length_nil, Nat.reduceAdd]
    refine len_ints (get_app hc) (by omega) ?_
    refine callK_P h18 ⟨hp.length + 2, forn (syn r n) (ps.map fun p => al (w.length - 1 - p)), n, ps.length, kq w r ps qs, by rw [get_new]; rfl, by rw [forn_len, syn_len], by omega, by omega, p1, p2, p3, p4, p5, rfl, T.app, ?_⟩
    refine oneK_A 3 rfl (kn_L ?_)
    generalize (bm (fun m => (forn (syn r n) (ps.map fun p => al (w.length - 1 - p))).getD m 0) (n - ps.length)).1 = E at b1 b2
    rw [kq_len] at b1
    have hES : E.length ≤ SZ := by omega
    have hperm := R.roots b2
    simp only [setL_z, setL_s, kontL, sl_cons, sl_nil, s_assign, x_call, x_slc, x_neg, x_int, x_none, x_bi, xl_cons, xl_nil, x_L, lz, ls, Option.getD_some, List.cons_append, List.nil_append, List.length_cons, List.length_nil, Nat.reduceAdd]
    refine slc_revA 4 rfl (p := E) (by rw [get_new]; rfl) (isN _) (by omega) fun oE hoE => ?_
    simp only [List.cons_append, List.nil_append]
    refine len_P (p := r) (by rw [get_new0]; rfl) (isB _) (by omega) ?_
    refine callK_P h19 ⟨hp.length + 4, oE, E.reverse, r.length, by rw [get_new]; rfl, hoE, by rw [List.length_reverse]; omega, by rw [List.length_reverse]; omega, by omega, rfl, T.app, ?_, ?_⟩
    · have := hperm.length_eq
      rw [List.length_map] at this
      rw [hrl, this, List.length_reverse, b1]
    rw [hrl]
    refine oneK_A 5 rfl (kn_L ?_)
    generalize (rootsOf E.reverse w.length).map (fun i => w.length - 1 - i) = qs' at hperm
    have hql := hperm.length_eq
    have hpq : ps.length + qs'.length ≤ SZ := by omega
    obtain ⟨m1, m2⟩ := R.mend hperm
    simp only [setL_z, setL_s, kontL, sl_cons, sl_nil, s_iff, s_assign, k_cmp, x_call, x_bin, x_none, xl_cons, xl_nil, x_L, lz, ls, Option.getD_some, c_isR, t_bool, List.cons_append, List.nil_append, List.length_cons, List.length_nil, Nat.reduceAdd]
    refine b_catIA 6 rfl (get_app hc) (by rw [get_new]; rfl) (by omega) ?_
    simp only [List.cons_append, List.nil_append]
    refine callK_P h17 ⟨hp.length, hp.length + 1, hp.length + 6, r, syn r n, ps ++ qs', by rw [get_new0]; rfl, by rw [get_new]; rfl, by rw [get_new]; rfl, by rw [syn_len]; omega, by rw [syn_len]; omega, by rw [List.length_append]; omega, by omega, fun p h => ?_, m1, rfl, T.app, ?_⟩
    · rw [hrl]
      exact R.lt p ((List.Perm.append_left ps hperm).mem_iff.mp h)
    rw [m2]
    refine oneK_A 7 rfl (kn_L ?_)
    simp only [setL_z, setL_s, kontL, sl_cons, sl_nil, s_assign, x_call, xl_cons, xl_nil, x_L, lz, ls, Option.getD_some, List.cons_append, List.nil_append, List.length_cons, List.length_nil, Nat.reduceAdd]
    refine callK_P h14 ⟨hp.length + 7, B w, w, n, by rw [get_new]; rfl, isB _, by omega, by omega, by omega, rfl, T.app, ?_⟩
    refine oneK_A 8 rfl (kn_L ?_)
    simp only [setL_z, setL_s, kontL, sl_cons, sl_nil, s_iff, k_cmp, x_bi, x_int, xl_cons, xl_nil, x_L, lz, ls, Option.getD_some, List.cons_append, List.nil_append, List.length_cons, List.length_nil, Nat.reduceAdd]
    refine max_N (p := 0 :: syn w n) (by rw [get_new]; rfl) (by simp) (by simp [syn_len]; omega) fun m' _ hm' => ?_
    have hm0 := hm'.mpr (syn_zero.mpr R.code)
    rw [c_gt, t_bool, hm0]
    simp only [kontL, sl_cons, sl_nil, s_retM, x_slc, x_neg, x_bin, x_none, xl_cons, xl_nil, x_L, lz, ls, Option.getD_some, List.cons_append, List.nil_append, List.length_cons, List.length_nil, Nat.reduceAdd]
    refine slc_BA 9 rfl (p := w) (by rw [get_new]; rfl) rfl rfl (by omega) ?_
    refine slc_BA 10 rfl (p := w) (by rw [get_new]; rfl) rfl rfl (by omega) ?_
    refine b_catIA 11 rfl (get_app hc) (by rw [get_new]; rfl) (by omega) ⟨show 3 ≤ SZ by decide, ?_⟩
    simp only [kont_ret, List.cons_append, List.nil_append]
    rw [slice_to w hn1, slice_from w hn1]
    refine rets_many (us := [.ref hp.length, .ref (hp.length + 1), .ref (hp.length + 2)]) (t' := [B _, B _, intsO _]) [9, 10, 11] (by decide) rfl ?_ ?_ (q2 qs' hperm)
    · simp [viaV]
    · simp [OkV]
end Mine
end
section
open PySem PyProof.Rows
namespace Mine
local macro_rules | `(tactic| omega) => `(tactic| first | assumption | lia | omega +splitDisjunctions)
open P GF
theorem fmod_ex (x : Int) {k : Nat} (hk : 0 < k) : ∃ m : Nat, x.fmod (k : Int) = (m : Int) ∧ m < k := by
  refine ⟨(x % (k : Int)).toNat, ?_, ?_⟩
  · rw [Int.fmod_eq_emod_of_nonneg _ (by omega), Int.toNat_of_nonneg (Int.emod_nonneg _ (by omega))]
  · have := Int.emod_lt_of_pos x (show (0 : Int) < k by omega)
    have := Int.emod_nonneg x (show (k : Int) ≠ 0 by omega)
    omega
theorem bytes_B : ∀ l : List Nat, (∀ x ∈ l, x < 256) → ∃ m, O.bytes l = B m ∧ m.length = l.length
  | [], _ => ⟨[], rfl, rfl⟩
  | x :: l, h => by
    obtain ⟨m, e, hl⟩ := bytes_B l fun y hy => h y (List.mem_cons_of_mem _ hy)
    refine ⟨GF.mk x (h x List.mem_cons_self) :: m, ?_, by simp [hl]⟩
    unfold B at e ⊢
    rw [List.map_cons, ← O.bytes.inj e]; rfl
structure Spo (n : Nat) (w r : List GF) (ps qs : List Nat) : Prop where
  len : r.length = w.length
  nodup : (ps ++ qs).Nodup
  lt : ∀ p ∈ ps ++ qs, p < w.length
  same : ∀ k, k < w.length → k ∉ ps ++ qs → r.getD k 0 = w.getD k 0
  wrong : ∀ q ∈ qs, r.getD q 0 ≠ w.getD q 0
  room : 2 * qs.length + ps.length ≤ n
theorem Spo.rcv {n : Nat} {w r : List GF} {ps qs : List Nat} (S : Spo n w r ps qs) (n1 : 1 ≤ n) (n6 : n ≤ 100) (big : w.length ≤ 255) (nw : n ≤ w.length) (code : ∀ i, i < n → ev w (al i) = 0) : Rcv n w (zeroed r ps) ps qs :=
  ⟨n1, n6, by rw [zeroed_len]; exact S.len, big, nw, code, S.nodup, S.lt, fun k hk h => by rw [zeroed_get ps r fun h' => h (List.mem_append_left _ h')]; exact S.same k hk h,
    fun q hq => by
      rw [zeroed_get ps r fun h' => (List.nodup_append.mp S.nodup).2.2 q h' q hq rfl]
      exact S.wrong q hq, S.room⟩
theorem set_getD (r : List GF) (k j : Nat) (v : GF) : (r.set k v).getD j 0 = if k = j ∧ k < r.length then v else r.getD j 0 := by
  rw [List.getD_eq_getElem?_getD, List.getElem?_set]
  by_cases h : k = j
  · subst h
    rw [if_pos rfl]
    by_cases hl : k < r.length
    · rw [if_pos hl, if_pos ⟨rfl, hl⟩]; rfl
    · rw [if_neg hl, if_neg (fun h => hl h.2), getD_big (by omega)]; rfl
  · rw [if_neg h, if_neg (fun h' => h h'.1), List.getD_eq_getElem?_getD]
theorem Spo.told {n : Nat} {w r : List GF} {ps qs : List Nat} (S : Spo n w r ps qs) {k : Nat} (hk : k < w.length) (h1 : k ∉ ps) (h2 : k ∉ qs) (hc : 2 * qs.length + ps.length + 1 ≤ n) (v : GF) : Spo n w (r.set k v) (ps ++ [k]) qs := by
  have hp : (ps ++ [k] ++ qs).Perm (k :: (ps ++ qs)) := by
    rw [List.append_assoc]; exact List.perm_middle
  refine ⟨by rw [List.length_set]; exact S.len, hp.nodup_iff.mpr (List.nodup_cons.mpr ⟨by simp [h1, h2], S.nodup⟩), fun p h => ?_, fun j hj h => ?_, fun q hq => ?_, by simp; omega⟩
  · rcases List.mem_cons.mp (hp.mem_iff.mp h) with rfl | h
    · exact hk
    · exact S.lt p h
  · have hjk : j ≠ k := fun e => h (hp.mem_iff.mpr (by rw [e]; exact List.mem_cons_self))
    rw [set_getD, if_neg (fun h => hjk h.1.symm)]
    exact S.same j hj fun h' => h (hp.mem_iff.mpr (List.mem_cons_of_mem _ h'))
  · have hqk : q ≠ k := fun e => h2 (e ▸ hq)
    rw [set_getD, if_neg (fun h => hqk h.1.symm)]
    exact S.wrong q hq
theorem Spo.bad {n : Nat} {w r : List GF} {ps qs : List Nat} (S : Spo n w r ps qs) {k : Nat} (hk : k < w.length) (h1 : k ∉ ps) (h2 : k ∉ qs) (hc : 2 * qs.length + ps.length + 2 ≤ n) {v : GF} (hv : v ≠ 0) : Spo n w (r.set k (r.getD k 0 + v)) ps (qs ++ [k]) := by
  have hp : (ps ++ (qs ++ [k])).Perm (k :: (ps ++ qs)) := by
    rw [← List.append_assoc]
    exact List.perm_append_comm
  refine ⟨by rw [List.length_set]; exact S.len, hp.nodup_iff.mpr (List.nodup_cons.mpr ⟨by simp [h1, h2], S.nodup⟩), fun p h => ?_, fun j hj h => ?_, fun q hq => ?_, by simp; omega⟩
  · rcases List.mem_cons.mp (hp.mem_iff.mp h) with rfl | h
    · exact hk
    · exact S.lt p h
  · have hjk : j ≠ k := fun e => h (hp.mem_iff.mpr (by rw [e]; exact List.mem_cons_self))
    rw [set_getD, if_neg (fun h => hjk h.1.symm)]
    exact S.same j hj fun h' => h (hp.mem_iff.mpr (List.mem_cons_of_mem _ h'))
  · rcases List.mem_append.mp hq with hq | hq
    · have hqk : q ≠ k := fun e => h2 (e ▸ hq)
      rw [set_getD, if_neg (fun h => hqk h.1.symm)]
      exact S.wrong q hq
    · have : q = k := by simpa using hq
      subst this
      rw [set_getD, if_pos ⟨rfl, by rw [S.len]; exact hk⟩, S.same q hk (by simp [h1, h2])]
      intro e
      exact hv (by grind)
theorem mem_ints {k : Nat} {xs : List Nat} : ((k : Int) ∈ xs.map Int.ofNat) ↔ k ∈ xs := by
  rw [List.mem_map]
  constructor
  · rintro ⟨y, hy, e⟩
    have : y = k := Int.ofNat.inj e
    exact this ▸ hy
  · intro h; exact ⟨k, h, rfl⟩
theorem sorted_eq {l1 l2 l1' l2' : List Int} (h : l1.Perm l2) (p1 : l1'.Perm l1) (p2 : l2'.Perm l2) (s1 : l1'.Pairwise (· ≤ ·)) (s2 : l2'.Pairwise (· ≤ ·)) : l1' = l2' := by
  have hp : l1'.Perm l2' := p1.trans (h.trans p2.symm)
  exact hp.eq_of_pairwise (fun a b _ _ h1 h2 => Int.le_antisymm h1 h2) s1 s2
theorem slice_from2 {α : Type} (p : List α) : sliceOf p (some 2) none = p.drop 2 := slice_fromN p 2
theorem ints_nil : O.nums [] = intsO [] := rfl
theorem ints_snoc (xs : List Nat) (x : Nat) : O.nums (xs.map Int.ofNat ++ [(x : Int)]) = intsO (xs ++ [x]) := by
  unfold intsO; rw [List.map_append]; rfl
inductive lawS (us : List V) (hp : List O) (Q : Res → List O → Prop) : Prop
  | mk  a sc (h0 : hp[a]? = some (.nums sc)) (h1 : sc.length ≤ 63) (h2 : us = [.ref a]) (h3 : Tab hp) (h4 : Q (.one (.bool true)) hp)
theorem notin_T {k b : Nat} {y : List Nat} {hp : List O} {P : Bool → List O → Prop} (h : hp[b]? = some (intsO y)) (hn : k ∉ y) (q : P true hp) : wCmp .NotIn (.int (k : Int)) (.ref b) hp (fun w hp3 => wTruth w hp3 P) := by
  unfold wCmp
  dsimp only
  rw [h]
  show P (decide (¬ (k : Int) ∈ y.map Int.ofNat)) hp
  rw [show decide (¬ (k : Int) ∈ y.map Int.ofNat) = true from decide_eq_true fun e => hn (mem_ints.mp e)]; exact q
theorem notin_F {k b : Nat} {y : List Nat} {hp : List O} {P : Bool → List O → Prop} (h : hp[b]? = some (intsO y)) (hn : k ∈ y) (q : P false hp) : wCmp .NotIn (.int (k : Int)) (.ref b) hp (fun w hp3 => wTruth w hp3 P) := by
  unfold wCmp
  dsimp only
  rw [h]
  show P (decide (¬ (k : Int) ∈ y.map Int.ofNat)) hp
  rw [show decide (¬ (k : Int) ∈ y.map Int.ofNat) = false from decide_eq_false fun e => e (mem_ints.mpr hn)]; exact q
theorem le_T {i j : Int} {hp : List O} {P : Bool → List O → Prop} (h : i ≤ j) (q : P true hp) : wCmp .LtE (.int i) (.int j) hp (fun w hp3 => wTruth w hp3 P) := (congrArg (fun z => P z hp) (decide_eq_true h)).mpr q
theorem le_F {i j : Int} {hp : List O} {P : Bool → List O → Prop} (h : ¬ i ≤ j) (q : P false hp) : wCmp .LtE (.int i) (.int j) hp (fun w hp3 => wTruth w hp3 P) := (congrArg (fun z => P z hp) (decide_eq_false h)).mpr q
theorem ne_F {i j : Int} {hp : List O} {P : Bool → List O → Prop} (h : i = j) (q : P false hp) : wCmp .NotEq (.int i) (.int j) hp (fun w hp3 => wTruth w hp3 P) := by
  show P (decide (i ≠ j)) hp
  rw [show decide (i ≠ j) = false from decide_eq_false fun e => e h]; exact q
theorem neR_F {a b : Nat} {x : List Int} {hp : List O} {P : Bool → List O → Prop} (h1 : hp[a]? = some (.nums x)) (h2 : hp[b]? = some (.nums x)) (q : P false hp) : wCmp .NotEq (.ref a) (.ref b) hp (fun w hp3 => wTruth w hp3 P) := by
  unfold wCmp
  dsimp only
  rw [h1, h2]
  show P (decide (x ≠ x)) hp
  rw [show decide (x ≠ x) = false from decide_eq_false fun e => e rfl]; exact q
theorem eqR_P {a b : Nat} {x y : List Int} {hp : List O} {Q : QE} (h1 : hp[a]? = some (.nums x)) (h2 : hp[b]? = some (.nums y)) (q : Q (.bool (decide (x = y))) hp) : wCmp .Eq (.ref a) (.ref b) hp Q := by
  unfold wCmp
  dsimp only
  rw [h1, h2]; exact q
theorem sort_P {a : Nat} {l : List Int} {hp : List O} {Q : QE} (h : hp[a]? = some (.nums l)) (hs : l.length < 64) (q : ∀ l', l'.Perm l → l'.Pairwise (· ≤ ·) → Q (.ref hp.length) (hp ++ [.nums l'])) : wBI .sorted [.ref a] hp Q := by
  unfold wBI
  dsimp only
  rw [h]; exact ⟨hs, q⟩
theorem or_cons2 {Gf : Fns} {gs : List V} {x y : X} {ys : XL} {loc : Loc} {hp : List O} {Q : QE} : wOr Gf gs (.cons x (.cons y ys)) loc hp Q = wX Gf gs x loc hp fun v hp1 => wTruth v hp1 fun b hp2 => match b with
    | true => Q v hp2
    | false => wOr Gf gs (.cons y ys) loc hp2 Q := rfl
theorem or_cons1 {Gf : Fns} {gs : List V} {x : X} {loc : Loc} {hp : List O} {Q : QE} : wOr Gf gs (.cons x .nil) loc hp Q = wX Gf gs x loc hp Q := rfl
theorem xor_P {a y : GF} {j : Int} {hp Q} (e : j = (y.val : Int)) (q : Q (.int (a + y).val) hp) : wBin .BitXor (.int a.val) (.int j) hp Q := by subst e; exact b_xorG q
theorem law_val (x : Int) : ∃ y : GF, y ≠ 0 ∧ (x.fdiv 200).fmod 255 + 1 = (y.val : Int) := by
  obtain ⟨v, hv, hv5⟩ := fmod_ex (x.fdiv 200) (k := 255) (by decide)
  refine ⟨GF.mk (v + 1) (Nat.lt_of_lt_of_le (Nat.succ_lt_succ hv5) (by decide)), fun e => ?_, congrArg (· + 1) hv⟩
  have h2 : v + 1 = 0 := congrArg GF.val e
  omega
theorem law_if {Gf : Fns} {hp1 : List O} {KK : QS} {n k : Nat} {i x : Int} {w r : List GF} {ps qs : List Nat} (kn : Bool) {vs : List (Option V)}
    (hvs : vs = [none, none, some (.int (n : Nat)), none, none, some (.ref hp1.length), some (.ref (hp1.length + 1)), some (.ref (hp1.length + 2)), some (.ref (hp1.length + 3)), some (.int i), some (.int x), some (.int (k : Nat)), some (.bool kn), some (.int (2 * (qs.length : Nat) + (ps.length : Nat) + cond kn 1 2)), none, none, none, none])
    (hkl : k < w.length) (hw : w.length ≤ 255) (hn6 : n ≤ 6) (S : Spo n w r ps qs) (fin : ∀ r ps qs, Spo n w r ps qs → KK .next ⟨L vs, hp1 ++ [B w, B r, intsO ps, intsO qs]⟩) :
    wSL Gf GS hp1.length (.cons (.iff (.and (.cons (.cmp .NotIn (.loc 11) (.loc 7)) (.cons (.cmp .NotIn (.loc 11) (.loc 8)) (.cons (.cmp .LtE (.loc 13) (.loc 2)) .nil)))) (.cons (.setI (.loc 6) (.loc 11) (.bin .BitXor (.idx (.loc 6) (.loc 11)) (.bin .Add (.bin .Mod (.bin .FloorDiv (.loc 10) (.int 200)) (.int 255)) (.int 1))))
      (.cons (.iff (.loc 12) (.cons (.app (.loc 7) (.loc 11)) .nil) (.cons (.app (.loc 8) (.loc 11)) .nil)) .nil)) .nil) .nil) ⟨L vs, hp1 ++ [B w, B r, intsO ps, intsO qs]⟩ KK := by
  have hSZ : (2000 : Nat) ≤ SZ := by decide
  have hrl : r.length ≤ 255 := S.len ▸ hw
  have hrk : k < r.length := S.len ▸ hkl
  have hroom := S.room
  obtain ⟨y, hy0, hy⟩ := law_val x
  generalize hvv : vs = us at fin ⊢
  have f0 := fin r ps qs S
  subst hvv hvs
  simp only [sl_cons, s_iff, k_and, ca_cons, ca_nil, k_cmp, x_L, lz, ls, Option.getD_some]
  by_cases h1 : k ∈ ps
  · exact notin_F (by rw [get_new]; rfl) h1 f0
  refine notin_T (y := ps) (by rw [get_new]; rfl) h1 ?_
  by_cases h2 : k ∈ qs
  · exact notin_F (by rw [get_new]; rfl) h2 f0
  refine notin_T (y := qs) (by rw [get_new]; rfl) h2 ?_
  by_cases h3 : 2 * (qs.length : Int) + (ps.length : Nat) + cond kn 1 2 ≤ (n : Nat)
  · refine le_T h3 ?_
    simp only [sl_cons, sl_nil, s_setI, x_bin, x_idx, x_int, x_L, lz, ls, Option.getD_some]
    refine idx_P (p := r) (by rw [get_new]; rfl) (isB _) hrk (by omega) ?_
    simp only [b_div, b_mod, b_add]
    refine ⟨by decide, by decide, by decide, xor_P hy ?_⟩
    refine st_bytes (Nat.le_add_right _ _) (by rw [get_new]; rfl) (by rw [List.length_map]; exact hrk) (GF.val_lt _) (by rw [List.length_map]; omega) ?_
    rw [set_new, ← List.map_set]
    clear hy
    induction kn with
    | true =>
      simp only [kontL, sl_cons, sl_nil, s_iff, s_app, k_loc, x_L, lz, ls, Option.getD_some, t_bool]
      refine app_intro (by rw [get_new]; rfl) ?_
      simp only [x_L, lz, ls, Option.getD_some]
      refine appK_int (Nat.le_add_right _ _) (by rw [get_new]; rfl) (by rw [List.length_map]; omega) ?_
      rw [ints_snoc, set_new]
      exact fin _ _ _ (S.told hkl h1 h2 (by have h4 : 2 * (qs.length : Int) + (ps.length : Nat) + 1 ≤ (n : Nat) := h3; omega) _)
    | false =>
      simp only [kontL, sl_cons, sl_nil, s_iff, s_app, k_loc, x_L, lz, ls, Option.getD_some, t_bool]
      refine app_intro (by rw [get_new]; rfl) ?_
      simp only [x_L, lz, ls, Option.getD_some]
      refine appK_int (Nat.le_add_right _ _) (by rw [get_new]; rfl) (by rw [List.length_map]; omega) ?_
      rw [ints_snoc, set_new]
      exact fin _ _ _ (S.bad hkl h1 h2 (by have h4 : 2 * (qs.length : Int) + (ps.length : Nat) + 2 ≤ (n : Nat) := h3; omega) hy0)
  · exact le_F h3 f0
end Mine
end
section
open PySem PyProof.Rows
namespace Mine
local macro_rules | `(tactic| omega) => `(tactic| first | assumption | lia | omega +splitDisjunctions)
open P GF
theorem law_end {Gf : Fns} {hp H : List O} {Q : Res → List O → Prop} {n a5 a6 a7 a8 a14 a15 c d : Nat} {w : List GF} {ps qs pl : List Nat} (hw : w.length ≤ 255) (hps : ps.length ≤ 20) (hqs : qs.length ≤ 20)
    (g1 : H[a5]? = some (B w)) (g3 : H[a7]? = some (intsO ps)) (g4 : H[a8]? = some (intsO qs)) (g6 : H[a14]? = some (B (w.take d))) (g7 : H[a15]? = some (B (w.drop d))) (hc : H[c]? = some (intsO pl)) (hpl : qs = [] ∨ pl.Perm (ps ++ qs)) (hpl20 : pl.length ≤ 20)
    (hrb : ∀ T l, RetsV hp.length Q (.ret (.one (.bool true))) ⟨l, H ++ T⟩) :
    wSL Gf GS hp.length (.cons (.iff (.cmp .NotEq (.bin .Add (.bi .lst (.cons (.loc 14) .nil)) (.bi .lst (.cons (.loc 15) .nil))) (.bi .lst (.cons (.loc 5) .nil))) (.cons (.ret (.bool false)) .nil) .nil)
      (.cons (.ret (.or (.cons (.cmp .Eq (.loc 8) (.list .nil)) (.cons (.cmp .Eq (.bi .sorted (.cons (.loc 16) .nil)) (.bi .sorted (.cons (.bin .Add (.loc 7) (.loc 8)) .nil))) .nil)))) .nil))
      ⟨L [none, none, some (.int (n : Nat)), none, none, some (.ref a5), some (.ref a6), some (.ref a7), some (.ref a8), none, none, none, none, none, some (.ref a14), some (.ref a15), some (.ref c), none], H⟩ (RetsV hp.length Q) := by
  have hSZ : (2000 : Nat) ≤ SZ := by decide
  simp only [sl_cons, sl_nil, s_iff, k_cmp, x_bin, x_bi, xl_cons, xl_nil, x_L, lz, ls, Option.getD_some]
  refine lst_B g6 (by rw [List.length_take]; omega) ?_
  refine lst_BA 1 rfl (get_app g7) (by rw [List.length_drop]; omega) ?_
  refine b_catNA 2 rfl (x := (w.take d).map fun a => (a.val : Int)) (y := (w.drop d).map fun a => (a.val : Int)) (by rw [get_new0]; rfl) (by rw [get_new]; rfl) (by rw [List.length_map, List.length_map, List.length_take, List.length_drop]; omega) ?_
  rw [← List.map_append, List.take_append_drop]
  refine lst_BA 3 rfl (get_app g1) (by omega) ?_
  refine neR_F (x := w.map fun a => (a.val : Int)) (by rw [get_new]; rfl) (by rw [get_new]; rfl) ?_
  simp only [kontL, kont_ret, sl_cons, sl_nil, s_ret, x_or, or_cons2, or_cons1, x_cmp, x_bin, x_bi, x_list, xl_cons, xl_nil, x_L, lz, ls, Option.getD_some]
  refine lkA 4 rfl rfl rfl ?_
  refine eqR_P (x := qs.map Int.ofNat) (y := []) (get_app g4) (by rw [get_new]; rfl) ?_
  rw [t_bool]
  by_cases hq : qs = []
  · subst hq
    exact hrb _ _
  · have hpl' := hpl.resolve_left hq
    rw [show decide (qs.map Int.ofNat = []) = false from decide_eq_false fun h => hq (List.map_eq_nil_iff.mp h)]
    refine sort_P (get_app hc) (by rw [ints_len]; omega) fun s1 hs1 hs1' => ?_
    rw [ap_len (k := 5) rfl, List.append_assoc]
    refine b_catIA 6 rfl (get_app g3) (get_app g4) (by omega) ?_
    refine sort_P (l := (ps ++ qs).map Int.ofNat) (by rw [get_new]; rfl) (by rw [ints_len, List.length_append]; omega) fun s2 hs2 hs2' => ?_
    rw [ap_len (k := 7) rfl, List.append_assoc]
    obtain rfl : s1 = s2 := sorted_eq (hpl'.map Int.ofNat) hs1 hs2 hs1' hs2'
    refine eqR_P (x := s1) (y := s1) (by rw [get_new]; rfl) (by rw [get_new]; rfl) ?_
    rw [decide_eq_true rfl]
    exact hrb _ _
theorem mod_P {i k j : Int} {hp : List O} {Q : QE} (hk : k ≠ 0) (e : i.fmod k = j) (q : Q (.int j) hp) : wBin .Mod (.int i) (.int k) hp Q := ⟨hk, by rw [e]; exact q⟩
theorem add_P {i k j : Int} {hp : List O} {Q : QE} (e : i + k = j) (q : Q (.int j) hp) : wBin .Add (.int i) (.int k) hp Q := by subst e; exact q
theorem ite_P {Gf : Fns} {gs : List V} {c : Nat} {a b : Int} {vs : List (Option V)} {hp : List O} {Q : QE} (kn : Bool) (hc : L vs c = some (.bool kn)) (q : Q (.int (cond kn a b)) hp) : wX Gf gs (.ite (.loc c) (.int a) (.int b)) (L vs) hp Q := by
  show wC Gf gs (.loc c) (L vs) hp _
  show (match L vs c with
    | some v => wTruth v hp _
    | none => False)
  rw [hc]
  induction kn with
  | true => exact q
  | false => exact q
theorem law_nat (x : Int) (k : Nat) (hk : 0 < k) : ∃ n : Nat, 1 ≤ n ∧ n ≤ k ∧ x.fmod (k : Int) + 1 = (n : Int) := by
  obtain ⟨n', hn', h⟩ := fmod_ex x hk
  exact ⟨n' + 1, Nat.le_add_left _ _, h, congrArg (· + 1) hn'⟩
theorem law_body {Gf : Fns} {hp1 : List O} {n n0 i : Nat} {x : Int} {w r : List GF} {ps qs : List Nat} (hl1 : hp1.length = n0 + 1) (hw1 : 1 ≤ w.length) (hw : w.length ≤ 255) (hn6 : n ≤ 6) (S : Spo n w r ps qs) :
    wSL Gf GS hp1.length (.cons (.assign 11 (.bin .Mod (.loc 10) (.bi .len (.cons (.loc 5) .nil)))) (.cons (.assign 12 (.cmp .Eq (.bin .Mod (.bin .FloorDiv (.loc 10) (.int 100)) (.int 2)) (.int 0)))
      (.cons (.assign 13 (.bin .Add (.bin .Add (.bin .Mult (.int 2) (.bi .len (.cons (.loc 8) .nil))) (.bi .len (.cons (.loc 7) .nil))) (.ite (.loc 12) (.int 1) (.int 2))))
      (.cons (.iff (.and (.cons (.cmp .NotIn (.loc 11) (.loc 7)) (.cons (.cmp .NotIn (.loc 11) (.loc 8)) (.cons (.cmp .LtE (.loc 13) (.loc 2)) .nil)))) (.cons (.setI (.loc 6) (.loc 11) (.bin .BitXor (.idx (.loc 6) (.loc 11)) (.bin .Add (.bin .Mod (.bin .FloorDiv (.loc 10) (.int 200)) (.int 255)) (.int 1))))
      (.cons (.iff (.loc 12) (.cons (.app (.loc 7) (.loc 11)) .nil) (.cons (.app (.loc 8) (.loc 11)) .nil)) .nil)) .nil) .nil))))
      ⟨((L [none, none, some (.int (n : Nat)), none, none, some (.ref (n0 + 1)), some (.ref (n0 + 2)), some (.ref (n0 + 3)), some (.ref (n0 + 4)), none, none, none, none, none, none, none, none, none]).set 9 (.int (i : Int))).set 10 (.int x), hp1 ++ [B w, B r, intsO ps, intsO qs]⟩
      (Turn hp1.length fun st => ∃ r ps qs, st = ⟨L [none, none, some (.int (n : Nat)), none, none, some (.ref (n0 + 1)), some (.ref (n0 + 2)), some (.ref (n0 + 3)), some (.ref (n0 + 4)), none, none, none, none, none, none, none, none, none], hp1 ++ [B w, B r, intsO ps, intsO qs]⟩ ∧ Spo n w r ps qs) := by
  refine cutK fun KK hKK => as_L2 ?_
  have hSZ : (2000 : Nat) ≤ SZ := by decide
  have hroom := S.room
  obtain ⟨k, hk, hkl⟩ := fmod_ex x (k := w.length) hw1
  have r6 : n0 + 2 = hp1.length + 1 := by rw [hl1]
  have r7 : n0 + 3 = hp1.length + 2 := by rw [hl1]
  have r8 : n0 + 4 = hp1.length + 3 := by rw [hl1]
  rw [r6, r7, r8, ← hl1] at hKK ⊢
  simp only [setL_z, setL_s, sl_cons, sl_nil, s_assign, x_bin, x_bi, xl_cons, xl_nil, x_L, lz, ls, Option.getD_some]
  refine len_P (p := w) (by rw [get_new0]; rfl) (isB _) (by omega) ?_
  refine mod_P (by omega) hk (kn_L ?_)
  simp only [setL_z, setL_s, sl_cons, s_assign, x_bin, x_cmp, x_int, x_L, lz, ls, Option.getD_some, b_mod, b_div, c_eq]
  refine ⟨by decide, by decide, by decide, kn_L ?_⟩
  generalize decide ((x.fdiv 100).fmod 2 = 0) = kn
  simp only [setL_z, setL_s, sl_cons, s_assign, x_bin, x_bi, x_int, xl_cons, xl_nil, x_L, lz, ls, Option.getD_some]
  refine len_ints (xs := qs) (by rw [get_new]; rfl) (by omega) ?_
  rw [b_mul]
  refine ⟨by decide, by omega, len_ints (xs := ps) (by rw [get_new]; rfl) (by omega) (add_P rfl ?_)⟩
  refine ite_P kn rfl (add_P rfl (kn_L ?_))
  simp only [setL_z, setL_s]
  refine law_if kn rfl hkl hw hn6 S fun r ps qs S => hKK _ ?_
  refine turn (t' := [B w, B r, intsO ps, intsO qs]) (vs := [none, none, some (.int (n : Nat)), none, none, some (.ref hp1.length), some (.ref (hp1.length + 1)), some (.ref (hp1.length + 2)), some (.ref (hp1.length + 3)), none, none, none, none, none, none, none, none, none]) [0, 1, 2, 3] (by decide) rfl ?_ ⟨r, ps, qs, rfl, S⟩
  (repeat' first | exact trivial | refine via_none ?_ | refine via_int rfl ?_ | refine via_new0 rfl rfl ?_ | refine via_new rfl rfl ?_ | fail)
end Mine
end
section
open PySem PyProof.Rows
namespace Mine
local macro_rules | `(tactic| omega) => `(tactic| first | assumption | lia | omega +splitDisjunctions)
open P GF
theorem law_bytes (x : Int) (j : Nat) : ∃ m : Nat, (x.fdiv ((j : Int) + 1)).fmod 256 = (m : Int) ∧ m < 256 := fmod_ex (x.fdiv ((j : Int) + 1)) (k := 256) (by decide)
theorem unpK3 {Gf : Fns} {gs : List V} {n k j i : Nat} {r : SL} {Q : QS} {vs : List (Option V)} {u v z : V} {hp : List O} (h : wSL Gf gs n r ⟨L (setL (setL (setL vs k u) j v) i z), hp⟩ Q) : UnpK (L vs) [k, j, i] (Kont Gf gs n r Q) (.many true [u, v, z]) hp := by
  refine ⟨rfl, rfl, ?_⟩
  show wSL Gf gs n r ⟨(((L vs).set k u).set j v).set i z, hp⟩ Q
  rw [L_set, L_set, L_set]; exact h
theorem tr_law {Gf : Fns} {C13 C21 C22 : CallForm} (h13 : Gf[13]? = some (C13, encS)) (h21 : Gf[21]? = some (C21, corS)) (h22 : Gf[22]? = some (C22, checkS)) {us hp Q} (h : lawS us hp Q) :
    wSL Gf GS hp.length b_law ⟨fun i => us[i]?, hp⟩ (RetsV hp.length Q) := by
  obtain ⟨a, sc, ha, hsc, rfl, T, q⟩ := h
  have la := lt_of_get ha
  have hSZ : (2000 : Nat) ≤ SZ := by decide
  obtain ⟨x0, x1, rest, hnb, hr5, hr68⟩ : ∃ x0 x1 rest, sc ++ List.drop sc.length [3, 4, 65, 66, 7, 1, 200] = x0 :: x1 :: rest ∧ 5 ≤ rest.length ∧ rest.length ≤ 68 := by
    have hl : 7 ≤ (sc ++ List.drop sc.length [3, 4, 65, 66, 7, 1, 200]).length ∧ (sc ++ List.drop sc.length [3, 4, 65, 66, 7, 1, 200]).length ≤ 70 := by
      rw [List.length_append, List.length_drop]; simp only [List.length_cons, List.length_nil]; omega
    generalize sc ++ List.drop sc.length [3, 4, 65, 66, 7, 1, 200] = nb at hl
    rcases nb with _ | ⟨x0, _ | ⟨x1, rest⟩⟩
    · exact absurd hl.1 (by decide)
    · exact absurd hl.1 (show ¬ 7 ≤ 1 by decide)
    · exact ⟨x0, x1, rest, rfl, Nat.le_of_add_le_add_right (b := 2) hl.1, Nat.le_of_add_le_add_right (b := 2) hl.2⟩
  refine bc fun no => ?_
  obtain ⟨n, hn1, hn6, en⟩ := law_nat x0 6 (by decide)
  refine no ?_
  refine bc fun no => ?_
  obtain ⟨z, hz1, hz10, ez⟩ := law_nat x1 10 (by decide)
  refine no ?_
  rw [L_pad _ 17]
  unfold b_law
  simp only [sl_cons, s_assign, x_bin, x_slc, x_list, x_bi, x_int, x_none, xl_cons, xl_nil, x_L, List.map_cons, List.map_nil, rep_s, rep_z, List.cons_append, List.nil_append, lz, ls, Option.getD_some]
  refine lk0 (is := [3, 4, 65, 66, 7, 1, 200]) rfl rfl ?_
  refine len_N (get_app ha) (by omega) ?_
  refine slc_NA 1 rfl (by rw [get_new0]; rfl) rfl rfl (by decide) ?_
  rw [slice_fromN]
  refine b_catNA 2 rfl (get_app ha) (by rw [get_new]; rfl) (by rw [List.length_drop]; simp only [List.length_cons, List.length_nil]; omega) (kn_L ?_)
  rw [hnb]
  have hnl : (x0 :: x1 :: rest).length ≤ SZ := by rw [List.length_cons, List.length_cons]; omega
  simp only [setL_z, setL_s, sl_cons, s_assign, x_bin, x_idx, x_int, x_L, lz, ls, Option.getD_some, List.cons_append, List.nil_append]
  refine idx_nums (i := 0) (x := x0) (by rw [get_new]; rfl) rfl hnl (mod_P (by decide) rfl (add_P en (kn_L ?_)))
  simp only [setL_z, setL_s, sl_cons, s_assign, x_bin, x_idx, x_int, x_L, lz, ls, Option.getD_some]
  refine idx_nums (i := 1) (x := x1) (by rw [get_new]; rfl) rfl hnl (mod_P (by decide) rfl (add_P ez (kn_L ?_)))
  clear en ez
  simp only [setL_z, setL_s, sl_cons, s_assign, x_bi, x_compR, xl_cons, xl_nil, x_L, lz, ls, Option.getD_some]
  have hrp : 0 < rest.length := by omega
  refine compR_introA 3 rfl (fun i => (((x0 :: x1 :: rest).getD (2 + i % rest.length) 0).fdiv ((i : Int) + 1)).fmod 256) (by omega) (fun i hi => ax_L ?_) ?_
  · simp only [x_bin, x_idx, x_bi, x_int, xl_cons, xl_nil, x_L, setL_z, setL_s, lz, ls, Option.getD_some]
    refine len_N (l := x0 :: x1 :: rest) (by rw [get_new]; rfl) hnl ?_
    rw [b_sub]
    have e1 : (((x0 :: x1 :: rest).length : Nat) : Int) - 2 = ((rest.length : Nat) : Int) := by rw [List.length_cons, List.length_cons]; omega
    refine mod_P (by omega) ((congrArg (Int.fmod (i : Int)) e1).trans (fmod_nat i rest.length (Nat.ne_of_gt hrp))) (add_P (j := ((2 + i % rest.length : Nat) : Int)) rfl ?_)
    have hlt : 2 + i % rest.length < (x0 :: x1 :: rest).length := by rw [Nat.add_comm]; exact Nat.succ_lt_succ (Nat.succ_lt_succ (Nat.mod_lt i hrp))
    refine idx_nums (x := (x0 :: x1 :: rest).getD (2 + i % rest.length) 0) (by rw [get_new]; rfl) (by rw [List.getD_eq_getElem?_getD, List.getElem?_eq_getElem hlt]; rfl) hnl ?_
    rw [b_add, b_div]
    exact ⟨by omega, by omega, by decide, rfl, rfl⟩
  have hby : ∀ x ∈ (List.range z).map (fun i => (((x0 :: x1 :: rest).getD (2 + i % rest.length) 0).fdiv ((i : Int) + 1)).fmod 256), isByte x := fun x hx => by
    obtain ⟨i, _, rfl⟩ := List.mem_map.mp hx
    obtain ⟨m, e, hm⟩ := law_bytes ((x0 :: x1 :: rest).getD (2 + i % rest.length) 0) i
    rw [e]
    exact ⟨Int.natCast_nonneg _, Int.ofNat_lt.mpr hm⟩
  have hcl : ((List.range z).map (fun i => (((x0 :: x1 :: rest).getD (2 + i % rest.length) 0).fdiv ((i : Int) + 1)).fmod 256)).length = z := by rw [List.length_map, List.length_range]
  generalize (List.range z).map (fun i => (((x0 :: x1 :: rest).getD (2 + i % rest.length) 0).fdiv ((i : Int) + 1)).fmod 256) = ml0 at hby hcl
  obtain ⟨m, hmB, hml⟩ := bytes_B (ml0.map Int.toNat) fun x hx => by
    obtain ⟨y, hy, rfl⟩ := List.mem_map.mp hx
    have := (hby y hy).1
    have := (hby y hy).2
    omega
  rw [List.length_map, hcl] at hml
  have hmS : m.length ≤ SZ := by omega
  refine ba_IA 4 rfl (l := ml0) (by rw [get_new]; rfl) (by omega) hby (kn_L ?_)
  rw [hmB]
  clear hmB hby
  simp only [setL_z, setL_s, sl_cons, s_assign, x_call, xl_cons, xl_nil, x_L, lz, ls, Option.getD_some, List.cons_append, List.nil_append]
  refine callK_P h13 ⟨hp.length + 4, m, n, by rw [get_new]; rfl, hn1, hn6, by omega, rfl, T.app, ?_⟩
  have hwl : (enc m n).length = z + n := by rw [enc_len, hml]
  have hwt : (enc m n).take z = m := by unfold enc; rw [← hml, List.take_left']; rfl
  have hwc : ∀ i, i < n → ev (enc m n) (al i) = 0 := fun i hi => enc_code hi
  generalize enc m n = w at hwl hwt hwc
  have hwS : w.length ≤ SZ := by omega
  have hw255 : w.length ≤ 255 := by omega
  have hw1 : 1 ≤ w.length := by omega
  refine oneK_A 5 rfl (kn_L ?_)
  simp only [setL_z, setL_s, sl_cons, s_iff, k_or, k_not, k_cmp, co_cons, co_nil, x_bi, x_bin, x_slc, x_none, wc_call, xl_cons, xl_nil, x_L, lz, ls, Option.getD_some, List.cons_append, List.nil_append]
  refine slc_BA 6 rfl (p := w) (by rw [get_new]; rfl) rfl rfl (by omega) ?_
  rw [slice_toN w (by omega), hwt]
  refine lst_BA 7 rfl (p := m) (by rw [get_new]; rfl) (by omega) ?_
  refine lst_BA 8 rfl (p := m) (by rw [get_new]; rfl) (by omega) ?_
  refine neR_F (x := m.map fun a => (a.val : Int)) (by rw [get_new]; rfl) (by rw [get_new]; rfl) ?_
  refine len_P (p := w) (by rw [get_new]; rfl) (isB _) (by omega) (add_P rfl (ne_F (by omega) ?_))
  refine callK_P h22 ⟨hp.length + 5, B w, w, n, by rw [get_new]; rfl, isB _, by omega, by omega, by omega, rfl, T.app, ?_⟩
  rw [oneK, t_bool, decide_eq_true hwc]
  simp only [Bool.not_true, kontL, sl_cons, sl_nil, s_assign, x_bi, xl_cons, xl_nil, x_L, lz, ls, Option.getD_some, List.cons_append, List.nil_append]
  refine ba_PA 9 rfl (p := w) (by rw [get_new]; rfl) (isB _) (by omega) (kn_L ?_)
  simp only [setL_z, setL_s, sl_cons, s_assign, x_list, xl_nil, List.cons_append, List.nil_append]
  refine lkA 10 rfl rfl rfl (kn_L ?_)
  simp only [setL_z, setL_s, sl_cons, s_assign, x_list, xl_nil, List.cons_append, List.nil_append]
  refine lkA 11 rfl rfl rfl (kn_L ?_)
  simp only [setL_z, setL_s, sl_cons, s_forE, x_slc, x_int, x_none, x_L, lz, ls, Option.getD_some, List.cons_append, List.nil_append]
  refine slc_NA 12 rfl (p := x0 :: x1 :: rest) (by rw [get_new]; rfl) rfl rfl hnl ?_
  rw [slice_from2]
  simp only [List.drop_succ_cons, List.drop_zero, List.cons_append, List.nil_append]
  refine forE_own (i := 12) (xs := rest) (t' := [B w, B w, intsO [], intsO []])
    (vs := [none, none, some (.int (n : Nat)), none, none, some (.ref (hp.length + 1)), some (.ref (hp.length + 2)), some (.ref (hp.length + 3)), some (.ref (hp.length + 4)), none, none, none, none, none, none, none, none, none])
    rfl (by omega) [5, 9, 10, 11] (by decide) rfl (by (repeat' first | exact trivial | refine via_none ?_ | refine via_int rfl ?_ | refine via_bool rfl ?_ | refine via_non rfl ?_ | refine via_old (by omega) rfl ?_ | refine via_new0 rfl rfl ?_ | refine via_new rfl rfl ?_))
    (fun i st => ∃ r ps qs, st = ⟨L [none, none, some (.int (n : Nat)), none, none, some (.ref (hp.length + 1)), some (.ref (hp.length + 2)), some (.ref (hp.length + 3)), some (.ref (hp.length + 4)), none, none, none, none, none, none, none, none, none],
      hp ++ [.nums rest] ++ [B w, B r, intsO ps, intsO qs]⟩ ∧ Spo n w r ps qs) ⟨w, [], [], rfl, rfl, by simp, by simp, fun k _ _ => rfl, by simp, by simp⟩ ?_ ?_
  · rintro i x st ⟨r, ps, qs, rfl, S⟩ hi
    exact law_body (List.length_append) (by omega) (by omega) hn6 S
  · rintro st ⟨r, ps, qs, rfl, S⟩
    have R := S.rcv hn1 (by omega) (by omega) (by omega) hwc
    have hroom := S.room
    rw [List.append_assoc]
    simp only [kontL, sl_cons, s_unpack, x_bi, xl_cons, xl_nil, x_L, lz, ls, Option.getD_some, List.cons_append, List.nil_append]
    refine lst_NA 5 rfl (l := ps.map Int.ofNat) (by rw [get_new]; rfl) (by rw [ints_len]; omega) ?_
    refine callK_P h21 ⟨hp.length + 2, hp.length + 5, r, w, ps, qs, n, by rw [get_new]; rfl, by rw [get_new]; rfl, R, rfl, T.app, fun hq => ?_, fun qs' hqs => ?_⟩
    · rw [ap_len (k := 6) rfl, List.append_assoc]
      refine unpK3 ?_
      simp only [setL_z, setL_s]
      exact law_end (w := w) (ps := ps) (qs := qs) (by omega) (by omega) (by omega) (by rw [get_new]; rfl) (by rw [get_new]; rfl) (by rw [get_new]; rfl) (by rw [get_new]; rfl) (by rw [Nat.add_assoc, get_new]; rfl) (pl := ps) (by rw [get_new]; rfl) (.inl hq) (by omega) fun T l => by rw [List.append_assoc]; exact rets_bool q
    · rw [ap_len (k := 6) rfl, List.append_assoc]
      refine unpK3 ?_
      simp only [setL_z, setL_s]
      exact law_end (w := w) (ps := ps) (qs := qs) (by omega) (by omega) (by omega) (by rw [get_new]; rfl) (by rw [get_new]; rfl) (by rw [get_new]; rfl) (by rw [get_new]; rfl) (by rw [Nat.add_assoc, get_new]; rfl) (pl := ps ++ qs') (by rw [Nat.add_assoc, get_new]; rfl) (.inr (List.Perm.append_left ps hqs)) (by rw [List.length_append, hqs.length_eq]; omega) fun T l => by rw [List.append_assoc]; exact rets_bool q
end Mine
end
section
open PySem PySem.W PyProof.Rows
namespace Mine
namespace top27
noncomputable def o_1 (P : Params) : Obj := { cls := .type "tuple", data := .seq #[] }
noncomputable def o_2 (P : Params) : Obj := { cls := .none, data := .fields #[] }
noncomputable def o_3 (P : Params) : Obj := { cls := .type "code", data := .fields #[.str "<module>" 182, .str "<module>" 183, .str "/claim/cut.py" 184, .int 1 0, .int 0 0, .int 0 0, .int 0 0, .int 0 0, .ref 11, .bool false, .int 181 0, .ref 12, .none, .none, .none, .none, .int 185 0, .int 1 0, .str "/claim/cut.py" 186] }
noncomputable def o_4 (P : Params) : Obj := { cls := .type "frame", slots := #[some (.ref 13), some (.ref 3), some (.ref 3), none, some (.str "__main__" 164), none, some (.ref 0)] }
noncomputable def o_5 (P : Params) : Obj := { cls := .none, data := .dict #[{ hash := PyData.keyHash P "type.__subclasses__.Exception.0", key := .str "type.__subclasses__.Exception.0" 207, val := .int 24 0 }, { hash := PyData.keyHash P "type.__subclasses__.Exception.n", key := .str "type.__subclasses__.Exception.n" 208, val := .int 1 0 }] 2 }
noncomputable def o_8 (P : Params) : Obj := { cls := .type "tuple", data := .seq #[.type "Exception"] }
noncomputable def o_9 (P : Params) : Obj := { cls := .type "builtin_function_or_method", data := .fields #[.builtin "type.__prepare__", .type "type"] }
noncomputable def o_10 (P : Params) : Obj := { cls := .type "dict", data := .dict #[{ hash := PyData.keyHash P "__module__", key := .str "__module__" 198, val := .str "reedsolo" 187 }, { hash := PyData.keyHash P "__qualname__", key := .str "__qualname__" 200, val := .str "ReedSolomonError" 199 }, { hash := PyData.keyHash P "__firstlineno__", key := .str "__firstlineno__" 202, val := .int 4 201 }, { hash := PyData.keyHash P "__static_attributes__", key := .str "__static_attributes__" 203, val := .ref 22 }] 4 }
noncomputable def o_11 (P : Params) : Obj := { cls := .type "tuple", data := .seq #[] }
noncomputable def o_12 (P : Params) : Obj := { cls := .none, data := .fields #[] }
noncomputable def o_13 (P : Params) : Obj := { cls := .type "code", data := .fields #[.str "ReedSolomonError" 193, .str "ReedSolomonError" 194, .str "/claim/cut.py" 195, .int 4 0, .int 0 0, .int 0 0, .int 0 0, .int 0 0, .ref 18, .bool false, .int 181 0, .ref 19, .none, .none, .none, .none, .int 196 0, .int 4 0, .str "/claim/cut.py" 197] }
noncomputable def o_14 (P : Params) : Obj := { cls := .type "frame", slots := #[some (.ref 20), some (.ref 3), some (.ref 17), none, some (.str "reedsolo" 187), none, some (.ref 0)] }
noncomputable def o_15 (P : Params) : Obj := { cls := .type "tuple", data := .seq #[] }
noncomputable def o_16 (P : Params) : Obj := { cls := .type "dict", data := .dict #[{ hash := PyData.keyHash P "__module__", key := .str "__module__" 198, val := .str "reedsolo" 187 }, { hash := PyData.keyHash P "__firstlineno__", key := .str "__firstlineno__" 202, val := .int 4 201 }, { hash := PyData.keyHash P "__static_attributes__", key := .str "__static_attributes__" 203, val := .ref 22 }, { hash := PyData.keyHash P "__weakref__", key := .str "__weakref__" 205, val := .ref 25 }, { hash := PyData.keyHash P "__doc__", key := .str "__doc__" 206, val := .none }] 3 }
noncomputable def o_17 (P : Params) : Obj := { cls := .type "type", data := .cls { name := "ReedSolomonError", bases := [.type "Exception"], mro := [.ref 24, .type "Exception", .type "BaseException", .type "object"], ns := 23, qualname := "ReedSolomonError" }, slots := #[some (.ref 15), none, some (.str "ReedSolomonError" 191), some (.str "ReedSolomonError" 199), some (.builtin "Exception.__new__"), some (.bool true)] }
noncomputable def o_18 (P : Params) : Obj := { cls := .type "getset_descriptor", data := .fields #[.str "__weakref__" 204, .ref 24, .builtin "ExceptionGroup.__weakref__", .none] }
noncomputable def o_19 (P : Params) : Obj := { cls := .type "super", data := .fields #[.ref 24, .ref 24, .ref 24] }
noncomputable def o_20 (P : Params) : Obj := { cls := .type "builtin_function_or_method", data := .fields #[.builtin "object.__init_subclass__", .ref 24] }
noncomputable def o_21 (P : Params) : Obj := { cls := .type "tuple", data := .seq #[.int 285 211, .int 2 212, .int 8 213] }
noncomputable def o_22 (P : Params) : Obj := { cls := .type "tuple", data := .seq #[] }
noncomputable def o_23 (P : Params) : Obj := { cls := .none, data := .fields #[] }
noncomputable def o_24 (P : Params) : Obj := { cls := .type "tuple", data := .seq #[.str "prim" 217, .str "generator" 218, .str "c_exp" 219, .str "field_charac" 220, .str "gf_exp" 221, .str "gf_log" 222, .str "x" 223, .str "i" 224] }
noncomputable def o_25 (P : Params) : Obj := { cls := .type "tuple", data := .seq #[] }
noncomputable def o_26 (P : Params) : Obj := { cls := .none, data := .func { name := "init_tables", qualname := "init_tables", params := (defOf "init_tables").1, body := .stmts ((defOf "init_tables").2.1), scope := (defOf "init_tables").2.2, globals := 0, closure := [], defaults := .none, kwdefaults := .none } }
noncomputable def o_27 (P : Params) : Obj := { cls := .type "code", data := .fields #[.str "init_tables" 214, .str "init_tables" 215, .str "/claim/cut.py" 216, .int 6 0, .int 3 0, .int 0 0, .int 0 0, .int 3 0, .ref 29, .bool true, .int 181 0, .ref 30, .none, .ref 31, .ref 32, .ref 33, .int 225 0, .int 6 0, .str "/claim/cut.py" 226] }
noncomputable def o_28 (P : Params) : Obj := { cls := .type "function", data := .func { name := "init_tables", qualname := "init_tables", params := (defOf "init_tables").1, body := .stmts ((defOf "init_tables").2.1), scope := (defOf "init_tables").2.2, globals := 3, closure := [], defaults := .ref 28, kwdefaults := .none, pyModule := .str "reedsolo" 187, code := .ref 34 } }
noncomputable def o_29 (P : Params) : Obj := { cls := .type "tuple", data := .seq #[] }
noncomputable def o_30 (P : Params) : Obj := { cls := .none, data := .fields #[] }
noncomputable def o_31 (P : Params) : Obj := { cls := .type "tuple", data := .seq #[.str "x" 231, .str "y" 232] }
noncomputable def o_32 (P : Params) : Obj := { cls := .type "tuple", data := .seq #[] }
noncomputable def o_33 (P : Params) : Obj := { cls := .none, data := .func { name := "gf_sub", qualname := "gf_sub", params := (defOf "gf_sub").1, body := .stmts ((defOf "gf_sub").2.1), scope := (defOf "gf_sub").2.2, globals := 0, closure := [], defaults := .none, kwdefaults := .none } }
noncomputable def o_34 (P : Params) : Obj := { cls := .type "code", data := .fields #[.str "gf_sub" 228, .str "gf_sub" 229, .str "/claim/cut.py" 230, .int 18 0, .int 2 0, .int 0 0, .int 0 0, .int 3 0, .ref 36, .bool true, .int 181 0, .ref 37, .none, .ref 38, .ref 39, .ref 40, .int 233 0, .int 18 0, .str "/claim/cut.py" 234] }
noncomputable def o_35 (P : Params) : Obj := { cls := .type "function", data := .func { name := "gf_sub", qualname := "gf_sub", params := (defOf "gf_sub").1, body := .stmts ((defOf "gf_sub").2.1), scope := (defOf "gf_sub").2.2, globals := 3, closure := [], defaults := .none, kwdefaults := .none, pyModule := .str "reedsolo" 187, code := .ref 41 } }
noncomputable def o_36 (P : Params) : Obj := { cls := .type "tuple", data := .seq #[] }
noncomputable def o_37 (P : Params) : Obj := { cls := .none, data := .fields #[] }
noncomputable def o_38 (P : Params) : Obj := { cls := .type "tuple", data := .seq #[.str "x" 239] }
noncomputable def o_39 (P : Params) : Obj := { cls := .type "tuple", data := .seq #[] }
noncomputable def o_40 (P : Params) : Obj := { cls := .none, data := .func { name := "gf_inverse", qualname := "gf_inverse", params := (defOf "gf_inverse").1, body := .stmts ((defOf "gf_inverse").2.1), scope := (defOf "gf_inverse").2.2, globals := 0, closure := [], defaults := .none, kwdefaults := .none } }
noncomputable def o_41 (P : Params) : Obj := { cls := .type "code", data := .fields #[.str "gf_inverse" 236, .str "gf_inverse" 237, .str "/claim/cut.py" 238, .int 20 0, .int 1 0, .int 0 0, .int 0 0, .int 3 0, .ref 43, .bool true, .int 181 0, .ref 44, .none, .ref 45, .ref 46, .ref 47, .int 240 0, .int 20 0, .str "/claim/cut.py" 241] }
noncomputable def o_42 (P : Params) : Obj := { cls := .type "function", data := .func { name := "gf_inverse", qualname := "gf_inverse", params := (defOf "gf_inverse").1, body := .stmts ((defOf "gf_inverse").2.1), scope := (defOf "gf_inverse").2.2, globals := 3, closure := [], defaults := .none, kwdefaults := .none, pyModule := .str "reedsolo" 187, code := .ref 48 } }
noncomputable def o_43 (P : Params) : Obj := { cls := .type "tuple", data := .seq #[] }
noncomputable def o_44 (P : Params) : Obj := { cls := .none, data := .fields #[] }
noncomputable def o_45 (P : Params) : Obj := { cls := .type "tuple", data := .seq #[.str "x" 246, .str "y" 247] }
noncomputable def o_46 (P : Params) : Obj := { cls := .type "tuple", data := .seq #[] }
noncomputable def o_47 (P : Params) : Obj := { cls := .none, data := .func { name := "gf_mul", qualname := "gf_mul", params := (defOf "gf_mul").1, body := .stmts ((defOf "gf_mul").2.1), scope := (defOf "gf_mul").2.2, globals := 0, closure := [], defaults := .none, kwdefaults := .none } }
noncomputable def o_48 (P : Params) : Obj := { cls := .type "code", data := .fields #[.str "gf_mul" 243, .str "gf_mul" 244, .str "/claim/cut.py" 245, .int 22 0, .int 2 0, .int 0 0, .int 0 0, .int 3 0, .ref 50, .bool true, .int 181 0, .ref 51, .none, .ref 52, .ref 53, .ref 54, .int 248 0, .int 22 0, .str "/claim/cut.py" 249] }
noncomputable def o_49 (P : Params) : Obj := { cls := .type "function", data := .func { name := "gf_mul", qualname := "gf_mul", params := (defOf "gf_mul").1, body := .stmts ((defOf "gf_mul").2.1), scope := (defOf "gf_mul").2.2, globals := 3, closure := [], defaults := .none, kwdefaults := .none, pyModule := .str "reedsolo" 187, code := .ref 55 } }
noncomputable def o_50 (P : Params) : Obj := { cls := .type "tuple", data := .seq #[] }
noncomputable def o_51 (P : Params) : Obj := { cls := .none, data := .fields #[] }
noncomputable def o_52 (P : Params) : Obj := { cls := .type "tuple", data := .seq #[.str "x" 254, .str "y" 255] }
noncomputable def o_53 (P : Params) : Obj := { cls := .type "tuple", data := .seq #[] }
noncomputable def o_54 (P : Params) : Obj := { cls := .none, data := .func { name := "gf_div", qualname := "gf_div", params := (defOf "gf_div").1, body := .stmts ((defOf "gf_div").2.1), scope := (defOf "gf_div").2.2, globals := 0, closure := [], defaults := .none, kwdefaults := .none } }
noncomputable def o_55 (P : Params) : Obj := { cls := .type "code", data := .fields #[.str "gf_div" 251, .str "gf_div" 252, .str "/claim/cut.py" 253, .int 26 0, .int 2 0, .int 0 0, .int 0 0, .int 3 0, .ref 57, .bool true, .int 181 0, .ref 58, .none, .ref 59, .ref 60, .ref 61, .int 256 0, .int 26 0, .str "/claim/cut.py" 257] }
noncomputable def o_56 (P : Params) : Obj := { cls := .type "function", data := .func { name := "gf_div", qualname := "gf_div", params := (defOf "gf_div").1, body := .stmts ((defOf "gf_div").2.1), scope := (defOf "gf_div").2.2, globals := 3, closure := [], defaults := .none, kwdefaults := .none, pyModule := .str "reedsolo" 187, code := .ref 62 } }
noncomputable def o_60 (P : Params) : Obj := { cls := .type "tuple", data := .seq #[] }
noncomputable def o_61 (P : Params) : Obj := { cls := .none, data := .fields #[] }
noncomputable def o_62 (P : Params) : Obj := { cls := .type "tuple", data := .seq #[.str "x" 262, .str "power" 263] }
noncomputable def o_63 (P : Params) : Obj := { cls := .type "tuple", data := .seq #[] }
noncomputable def o_64 (P : Params) : Obj := { cls := .none, data := .func { name := "gf_pow", qualname := "gf_pow", params := (defOf "gf_pow").1, body := .stmts ((defOf "gf_pow").2.1), scope := (defOf "gf_pow").2.2, globals := 0, closure := [], defaults := .none, kwdefaults := .none } }
noncomputable def o_65 (P : Params) : Obj := { cls := .type "code", data := .fields #[.str "gf_pow" 259, .str "gf_pow" 260, .str "/claim/cut.py" 261, .int 32 0, .int 2 0, .int 0 0, .int 0 0, .int 3 0, .ref 64, .bool true, .int 181 0, .ref 65, .none, .ref 66, .ref 67, .ref 68, .int 264 0, .int 32 0, .str "/claim/cut.py" 265] }
noncomputable def o_66 (P : Params) : Obj := { cls := .type "function", data := .func { name := "gf_pow", qualname := "gf_pow", params := (defOf "gf_pow").1, body := .stmts ((defOf "gf_pow").2.1), scope := (defOf "gf_pow").2.2, globals := 3, closure := [], defaults := .none, kwdefaults := .none, pyModule := .str "reedsolo" 187, code := .ref 69 } }
noncomputable def o_67 (P : Params) : Obj := { cls := .type "tuple", data := .seq #[.int 0 267, .int 256 268, .bool true] }
noncomputable def o_68 (P : Params) : Obj := { cls := .type "tuple", data := .seq #[] }
noncomputable def o_69 (P : Params) : Obj := { cls := .none, data := .fields #[] }
noncomputable def o_70 (P : Params) : Obj := { cls := .type "tuple", data := .seq #[.str "x" 272, .str "y" 273, .str "prim" 274, .str "field_charac_full" 275, .str "carryless" 276, .str "r" 277] }
noncomputable def o_71 (P : Params) : Obj := { cls := .type "tuple", data := .seq #[] }
noncomputable def o_72 (P : Params) : Obj := { cls := .none, data := .func { name := "gf_mult_noLUT", qualname := "gf_mult_noLUT", params := (defOf "gf_mult_noLUT").1, body := .stmts ((defOf "gf_mult_noLUT").2.1), scope := (defOf "gf_mult_noLUT").2.2, globals := 0, closure := [], defaults := .none, kwdefaults := .none } }
noncomputable def o_73 (P : Params) : Obj := { cls := .type "code", data := .fields #[.str "gf_mult_noLUT" 269, .str "gf_mult_noLUT" 270, .str "/claim/cut.py" 271, .int 34 0, .int 5 0, .int 0 0, .int 0 0, .int 3 0, .ref 72, .bool true, .int 181 0, .ref 73, .none, .ref 74, .ref 75, .ref 76, .int 278 0, .int 34 0, .str "/claim/cut.py" 279] }
noncomputable def o_74 (P : Params) : Obj := { cls := .type "function", data := .func { name := "gf_mult_noLUT", qualname := "gf_mult_noLUT", params := (defOf "gf_mult_noLUT").1, body := .stmts ((defOf "gf_mult_noLUT").2.1), scope := (defOf "gf_mult_noLUT").2.2, globals := 3, closure := [], defaults := .ref 71, kwdefaults := .none, pyModule := .str "reedsolo" 187, code := .ref 77 } }
noncomputable def o_75 (P : Params) : Obj := { cls := .type "tuple", data := .seq #[] }
noncomputable def o_76 (P : Params) : Obj := { cls := .none, data := .fields #[] }
noncomputable def o_77 (P : Params) : Obj := { cls := .none, data := .func { name := "gf_poly_scale", qualname := "gf_poly_scale", params := (defOf "gf_poly_scale").1, body := .stmts ((defOf "gf_poly_scale").2.1), scope := (defOf "gf_poly_scale").2.2, globals := 0, closure := [], defaults := .none, kwdefaults := .none } }
noncomputable def o_78 (P : Params) : Obj := { cls := .type "code", data := .fields #[.str "gf_poly_scale" 281, .str "gf_poly_scale" 282, .str "/claim/cut.py" 283, .int 44 0, .int 2 0, .int 0 0, .int 0 0, .int 3 0, .ref 79, .bool true, .int 181 0, .ref 80, .none, .none, .none, .ref 81, .int 284 0, .int 44 0, .str "/claim/cut.py" 285] }
noncomputable def o_79 (P : Params) : Obj := { cls := .type "function", data := .func { name := "gf_poly_scale", qualname := "gf_poly_scale", params := (defOf "gf_poly_scale").1, body := .stmts ((defOf "gf_poly_scale").2.1), scope := (defOf "gf_poly_scale").2.2, globals := 3, closure := [], defaults := .none, kwdefaults := .none, pyModule := .str "reedsolo" 187, code := .ref 82 } }
noncomputable def o_80 (P : Params) : Obj := { cls := .type "tuple", data := .seq #[] }
noncomputable def o_81 (P : Params) : Obj := { cls := .none, data := .fields #[] }
noncomputable def o_82 (P : Params) : Obj := { cls := .type "tuple", data := .seq #[.str "p" 290, .str "q" 291, .str "r" 292, .str "i" 293] }
noncomputable def o_83 (P : Params) : Obj := { cls := .type "tuple", data := .seq #[] }
noncomputable def o_84 (P : Params) : Obj := { cls := .none, data := .func { name := "gf_poly_add", qualname := "gf_poly_add", params := (defOf "gf_poly_add").1, body := .stmts ((defOf "gf_poly_add").2.1), scope := (defOf "gf_poly_add").2.2, globals := 0, closure := [], defaults := .none, kwdefaults := .none } }
noncomputable def o_85 (P : Params) : Obj := { cls := .type "code", data := .fields #[.str "gf_poly_add" 287, .str "gf_poly_add" 288, .str "/claim/cut.py" 289, .int 46 0, .int 2 0, .int 0 0, .int 0 0, .int 3 0, .ref 84, .bool true, .int 181 0, .ref 85, .none, .ref 86, .ref 87, .ref 88, .int 294 0, .int 46 0, .str "/claim/cut.py" 295] }
noncomputable def o_86 (P : Params) : Obj := { cls := .type "function", data := .func { name := "gf_poly_add", qualname := "gf_poly_add", params := (defOf "gf_poly_add").1, body := .stmts ((defOf "gf_poly_add").2.1), scope := (defOf "gf_poly_add").2.2, globals := 3, closure := [], defaults := .none, kwdefaults := .none, pyModule := .str "reedsolo" 187, code := .ref 89 } }
noncomputable def o_87 (P : Params) : Obj := { cls := .type "tuple", data := .seq #[] }
noncomputable def o_88 (P : Params) : Obj := { cls := .none, data := .fields #[] }
noncomputable def o_89 (P : Params) : Obj := { cls := .none, data := .func { name := "gf_poly_mul", qualname := "gf_poly_mul", params := (defOf "gf_poly_mul").1, body := .stmts ((defOf "gf_poly_mul").2.1), scope := (defOf "gf_poly_mul").2.2, globals := 0, closure := [], defaults := .none, kwdefaults := .none } }
noncomputable def o_90 (P : Params) : Obj := { cls := .type "code", data := .fields #[.str "gf_poly_mul" 297, .str "gf_poly_mul" 298, .str "/claim/cut.py" 299, .int 52 0, .int 2 0, .int 0 0, .int 0 0, .int 3 0, .ref 91, .bool true, .int 181 0, .ref 92, .none, .none, .none, .ref 93, .int 300 0, .int 52 0, .str "/claim/cut.py" 301] }
noncomputable def o_91 (P : Params) : Obj := { cls := .type "function", data := .func { name := "gf_poly_mul", qualname := "gf_poly_mul", params := (defOf "gf_poly_mul").1, body := .stmts ((defOf "gf_poly_mul").2.1), scope := (defOf "gf_poly_mul").2.2, globals := 3, closure := [], defaults := .none, kwdefaults := .none, pyModule := .str "reedsolo" 187, code := .ref 94 } }
noncomputable def o_92 (P : Params) : Obj := { cls := .type "tuple", data := .seq #[] }
noncomputable def o_93 (P : Params) : Obj := { cls := .none, data := .fields #[] }
noncomputable def o_94 (P : Params) : Obj := { cls := .type "tuple", data := .seq #[.str "dividend" 306, .str "divisor" 307, .str "msg_out" 308, .str "i" 309, .str "coef" 310, .str "j" 311, .str "separator" 312] }
noncomputable def o_95 (P : Params) : Obj := { cls := .type "tuple", data := .seq #[] }
noncomputable def o_96 (P : Params) : Obj := { cls := .none, data := .func { name := "gf_poly_div", qualname := "gf_poly_div", params := (defOf "gf_poly_div").1, body := .stmts ((defOf "gf_poly_div").2.1), scope := (defOf "gf_poly_div").2.2, globals := 0, closure := [], defaults := .none, kwdefaults := .none } }
noncomputable def o_97 (P : Params) : Obj := { cls := .type "code", data := .fields #[.str "gf_poly_div" 303, .str "gf_poly_div" 304, .str "/claim/cut.py" 305, .int 63 0, .int 2 0, .int 0 0, .int 0 0, .int 3 0, .ref 96, .bool true, .int 181 0, .ref 97, .none, .ref 98, .ref 99, .ref 100, .int 313 0, .int 63 0, .str "/claim/cut.py" 314] }
noncomputable def o_98 (P : Params) : Obj := { cls := .type "function", data := .func { name := "gf_poly_div", qualname := "gf_poly_div", params := (defOf "gf_poly_div").1, body := .stmts ((defOf "gf_poly_div").2.1), scope := (defOf "gf_poly_div").2.2, globals := 3, closure := [], defaults := .none, kwdefaults := .none, pyModule := .str "reedsolo" 187, code := .ref 101 } }
noncomputable def o_99 (P : Params) : Obj := { cls := .type "tuple", data := .seq #[] }
noncomputable def o_100 (P : Params) : Obj := { cls := .none, data := .fields #[] }
noncomputable def o_101 (P : Params) : Obj := { cls := .type "tuple", data := .seq #[.str "poly" 319, .str "x" 320, .str "y" 321, .str "i" 322] }
noncomputable def o_102 (P : Params) : Obj := { cls := .type "tuple", data := .seq #[] }
noncomputable def o_103 (P : Params) : Obj := { cls := .none, data := .func { name := "gf_poly_eval", qualname := "gf_poly_eval", params := (defOf "gf_poly_eval").1, body := .stmts ((defOf "gf_poly_eval").2.1), scope := (defOf "gf_poly_eval").2.2, globals := 0, closure := [], defaults := .none, kwdefaults := .none } }
noncomputable def o_104 (P : Params) : Obj := { cls := .type "code", data := .fields #[.str "gf_poly_eval" 316, .str "gf_poly_eval" 317, .str "/claim/cut.py" 318, .int 73 0, .int 2 0, .int 0 0, .int 0 0, .int 3 0, .ref 103, .bool true, .int 181 0, .ref 104, .none, .ref 105, .ref 106, .ref 107, .int 323 0, .int 73 0, .str "/claim/cut.py" 324] }
noncomputable def o_105 (P : Params) : Obj := { cls := .type "function", data := .func { name := "gf_poly_eval", qualname := "gf_poly_eval", params := (defOf "gf_poly_eval").1, body := .stmts ((defOf "gf_poly_eval").2.1), scope := (defOf "gf_poly_eval").2.2, globals := 3, closure := [], defaults := .none, kwdefaults := .none, pyModule := .str "reedsolo" 187, code := .ref 108 } }
noncomputable def o_106 (P : Params) : Obj := { cls := .type "tuple", data := .seq #[.int 0 326, .int 2 327] }
noncomputable def o_107 (P : Params) : Obj := { cls := .type "tuple", data := .seq #[] }
noncomputable def o_108 (P : Params) : Obj := { cls := .none, data := .fields #[] }
noncomputable def o_109 (P : Params) : Obj := { cls := .type "tuple", data := .seq #[.str "nsym" 331, .str "fcr" 332, .str "generator" 333, .str "g" 334, .str "i" 335] }
noncomputable def o_110 (P : Params) : Obj := { cls := .type "tuple", data := .seq #[] }
noncomputable def o_111 (P : Params) : Obj := { cls := .none, data := .func { name := "rs_generator_poly", qualname := "rs_generator_poly", params := (defOf "rs_generator_poly").1, body := .stmts ((defOf "rs_generator_poly").2.1), scope := (defOf "rs_generator_poly").2.2, globals := 0, closure := [], defaults := .none, kwdefaults := .none } }
noncomputable def o_112 (P : Params) : Obj := { cls := .type "code", data := .fields #[.str "rs_generator_poly" 328, .str "rs_generator_poly" 329, .str "/claim/cut.py" 330, .int 78 0, .int 3 0, .int 0 0, .int 0 0, .int 3 0, .ref 111, .bool true, .int 181 0, .ref 112, .none, .ref 113, .ref 114, .ref 115, .int 336 0, .int 78 0, .str "/claim/cut.py" 337] }
noncomputable def o_113 (P : Params) : Obj := { cls := .type "function", data := .func { name := "rs_generator_poly", qualname := "rs_generator_poly", params := (defOf "rs_generator_poly").1, body := .stmts ((defOf "rs_generator_poly").2.1), scope := (defOf "rs_generator_poly").2.2, globals := 3, closure := [], defaults := .ref 110, kwdefaults := .none, pyModule := .str "reedsolo" 187, code := .ref 116 } }
noncomputable def o_114 (P : Params) : Obj := { cls := .type "tuple", data := .seq #[.int 0 339, .int 2 340, .none] }
noncomputable def o_115 (P : Params) : Obj := { cls := .type "tuple", data := .seq #[] }
noncomputable def o_116 (P : Params) : Obj := { cls := .none, data := .fields #[] }
noncomputable def o_117 (P : Params) : Obj := { cls := .none, data := .func { name := "rs_encode_msg", qualname := "rs_encode_msg", params := (defOf "rs_encode_msg").1, body := .stmts ((defOf "rs_encode_msg").2.1), scope := (defOf "rs_encode_msg").2.2, globals := 0, closure := [], defaults := .none, kwdefaults := .none } }
noncomputable def o_118 (P : Params) : Obj := { cls := .type "code", data := .fields #[.str "rs_encode_msg" 341, .str "rs_encode_msg" 342, .str "/claim/cut.py" 343, .int 83 0, .int 5 0, .int 0 0, .int 0 0, .int 3 0, .ref 119, .bool true, .int 181 0, .ref 120, .none, .none, .none, .ref 121, .int 344 0, .int 83 0, .str "/claim/cut.py" 345] }
noncomputable def o_119 (P : Params) : Obj := { cls := .type "function", data := .func { name := "rs_encode_msg", qualname := "rs_encode_msg", params := (defOf "rs_encode_msg").1, body := .stmts ((defOf "rs_encode_msg").2.1), scope := (defOf "rs_encode_msg").2.2, globals := 3, closure := [], defaults := .ref 118, kwdefaults := .none, pyModule := .str "reedsolo" 187, code := .ref 122 } }
noncomputable def o_120 (P : Params) : Obj := { cls := .type "tuple", data := .seq #[.int 0 347, .int 2 348] }
noncomputable def o_121 (P : Params) : Obj := { cls := .type "tuple", data := .seq #[] }
noncomputable def o_122 (P : Params) : Obj := { cls := .none, data := .fields #[] }
noncomputable def o_123 (P : Params) : Obj := { cls := .none, data := .func { name := "rs_calc_syndromes", qualname := "rs_calc_syndromes", params := (defOf "rs_calc_syndromes").1, body := .stmts ((defOf "rs_calc_syndromes").2.1), scope := (defOf "rs_calc_syndromes").2.2, globals := 0, closure := [], defaults := .none, kwdefaults := .none } }
noncomputable def o_124 (P : Params) : Obj := { cls := .type "code", data := .fields #[.str "rs_calc_syndromes" 349, .str "rs_calc_syndromes" 350, .str "/claim/cut.py" 351, .int 99 0, .int 4 0, .int 0 0, .int 0 0, .int 3 0, .ref 125, .bool true, .int 181 0, .ref 126, .none, .none, .none, .ref 127, .int 352 0, .int 99 0, .str "/claim/cut.py" 353] }
noncomputable def o_125 (P : Params) : Obj := { cls := .type "function", data := .func { name := "rs_calc_syndromes", qualname := "rs_calc_syndromes", params := (defOf "rs_calc_syndromes").1, body := .stmts ((defOf "rs_calc_syndromes").2.1), scope := (defOf "rs_calc_syndromes").2.2, globals := 3, closure := [], defaults := .ref 124, kwdefaults := .none, pyModule := .str "reedsolo" 187, code := .ref 128 } }
noncomputable def o_126 (P : Params) : Obj := { cls := .type "tuple", data := .seq #[.int 0 355, .int 2 356] }
noncomputable def o_127 (P : Params) : Obj := { cls := .type "tuple", data := .seq #[] }
noncomputable def o_128 (P : Params) : Obj := { cls := .none, data := .fields #[] }
noncomputable def o_129 (P : Params) : Obj := { cls := .none, data := .func { name := "rs_correct_errata", qualname := "rs_correct_errata", params := (defOf "rs_correct_errata").1, body := .stmts ((defOf "rs_correct_errata").2.1), scope := (defOf "rs_correct_errata").2.2, globals := 0, closure := [], defaults := .none, kwdefaults := .none } }
noncomputable def o_130 (P : Params) : Obj := { cls := .type "code", data := .fields #[.str "rs_correct_errata" 357, .str "rs_correct_errata" 358, .str "/claim/cut.py" 359, .int 101 0, .int 5 0, .int 0 0, .int 0 0, .int 3 0, .ref 131, .bool true, .int 181 0, .ref 132, .none, .none, .none, .ref 133, .int 360 0, .int 101 0, .str "/claim/cut.py" 361] }
noncomputable def o_131 (P : Params) : Obj := { cls := .type "function", data := .func { name := "rs_correct_errata", qualname := "rs_correct_errata", params := (defOf "rs_correct_errata").1, body := .stmts ((defOf "rs_correct_errata").2.1), scope := (defOf "rs_correct_errata").2.2, globals := 3, closure := [], defaults := .ref 130, kwdefaults := .none, pyModule := .str "reedsolo" 187, code := .ref 134 } }
noncomputable def o_132 (P : Params) : Obj := { cls := .type "tuple", data := .seq #[.none, .int 0 363] }
noncomputable def o_133 (P : Params) : Obj := { cls := .type "tuple", data := .seq #[] }
noncomputable def o_134 (P : Params) : Obj := { cls := .none, data := .fields #[] }
noncomputable def o_135 (P : Params) : Obj := { cls := .type "tuple", data := .seq #[.str "synd" 367, .str "nsym" 368, .str "erase_loc" 369, .str "erase_count" 370, .str "err_loc" 371, .str "old_loc" 372, .str "synd_shift" 373, .str "i" 374, .str "K" 375, .str "delta" 376, .str "j" 377, .str "new_loc" 378, .str "errs" 379] }
noncomputable def o_136 (P : Params) : Obj := { cls := .type "tuple", data := .seq #[] }
noncomputable def o_137 (P : Params) : Obj := { cls := .none, data := .func { name := "rs_find_error_locator", qualname := "rs_find_error_locator", params := (defOf "rs_find_error_locator").1, body := .stmts ((defOf "rs_find_error_locator").2.1), scope := (defOf "rs_find_error_locator").2.2, globals := 0, closure := [], defaults := .none, kwdefaults := .none } }
noncomputable def o_138 (P : Params) : Obj := { cls := .type "code", data := .fields #[.str "rs_find_error_locator" 364, .str "rs_find_error_locator" 365, .str "/claim/cut.py" 366, .int 129 0, .int 4 0, .int 0 0, .int 0 0, .int 3 0, .ref 137, .bool true, .int 181 0, .ref 138, .none, .ref 139, .ref 140, .ref 141, .int 380 0, .int 129 0, .str "/claim/cut.py" 381] }
noncomputable def o_139 (P : Params) : Obj := { cls := .type "function", data := .func { name := "rs_find_error_locator", qualname := "rs_find_error_locator", params := (defOf "rs_find_error_locator").1, body := .stmts ((defOf "rs_find_error_locator").2.1), scope := (defOf "rs_find_error_locator").2.2, globals := 3, closure := [], defaults := .ref 136, kwdefaults := .none, pyModule := .str "reedsolo" 187, code := .ref 142 } }
noncomputable def o_141 (P : Params) : Obj := { cls := .type "dict", data := .dict #[{ hash := PyData.keyHash P "__name__", key := .str "__name__" 165, val := .str "reedsolo" 187 }, { hash := PyData.keyHash P "__doc__", key := .str "__doc__" 166, val := .none }, { hash := PyData.keyHash P "__package__", key := .str "__package__" 167, val := .none }, { hash := PyData.keyHash P "__loader__", key := .str "__loader__" 168, val := .builtin "__main__.__loader__#opaque" }, { hash := PyData.keyHash P "__spec__", key := .str "__spec__" 169, val := .none }, { hash := PyData.keyHash P "__annotations__", key := .str "__annotations__" 170, val := .ref 6 }, { hash := PyData.keyHash P "__builtins__", key := .str "__builtins__" 171, val := .ref 4 }, { hash := PyData.keyHash P "__file__", key := .str "__file__" 173, val := .str "/claim/cut.py" 172 }, { hash := PyData.keyHash P "__cached__", key := .str "__cached__" 174, val := .none }, { hash := PyData.keyHash P "_bytearray", key := .str "_bytearray" 189, val := .type "bytearray" }, { hash := PyData.keyHash P "xrange", key := .str "xrange" 190, val := .type "range" }, { hash := PyData.keyHash P "ReedSolomonError", key := .str "ReedSolomonError" 210, val := .ref 24 }, { hash := PyData.keyHash P "init_tables", key := .str "init_tables" 227, val := .ref 35 }, { hash := PyData.keyHash P "gf_sub", key := .str "gf_sub" 235, val := .ref 42 }, { hash := PyData.keyHash P "gf_inverse", key := .str "gf_inverse" 242, val := .ref 49 }, { hash := PyData.keyHash P "gf_mul", key := .str "gf_mul" 250, val := .ref 56 }, { hash := PyData.keyHash P "gf_div", key := .str "gf_div" 258, val := .ref 63 }, { hash := PyData.keyHash P "gf_pow", key := .str "gf_pow" 266, val := .ref 70 }, { hash := PyData.keyHash P "gf_mult_noLUT", key := .str "gf_mult_noLUT" 280, val := .ref 78 }, { hash := PyData.keyHash P "gf_poly_scale", key := .str "gf_poly_scale" 286, val := .ref 83 }, { hash := PyData.keyHash P "gf_poly_add", key := .str "gf_poly_add" 296, val := .ref 90 }, { hash := PyData.keyHash P "gf_poly_mul", key := .str "gf_poly_mul" 302, val := .ref 95 }, { hash := PyData.keyHash P "gf_poly_div", key := .str "gf_poly_div" 315, val := .ref 102 }, { hash := PyData.keyHash P "gf_poly_eval", key := .str "gf_poly_eval" 325, val := .ref 109 }, { hash := PyData.keyHash P "rs_generator_poly", key := .str "rs_generator_poly" 338, val := .ref 117 }, { hash := PyData.keyHash P "rs_encode_msg", key := .str "rs_encode_msg" 346, val := .ref 123 }, { hash := PyData.keyHash P "rs_calc_syndromes", key := .str "rs_calc_syndromes" 354, val := .ref 129 }, { hash := PyData.keyHash P "rs_correct_errata", key := .str "rs_correct_errata" 362, val := .ref 135 }, { hash := PyData.keyHash P "rs_find_error_locator", key := .str "rs_find_error_locator" 382, val := .ref 143 }, { hash := PyData.keyHash P "rs_find_errata_locator", key := .str "rs_find_errata_locator" 393, val := .ref 151 }, { hash := PyData.keyHash P "rs_find_error_evaluator", key := .str "rs_find_error_evaluator" 404, val := .ref 158 }, { hash := PyData.keyHash P "rs_find_errors", key := .str "rs_find_errors" 417, val := .ref 166 }, { hash := PyData.keyHash P "rs_forney_syndromes", key := .str "rs_forney_syndromes" 424, val := .ref 172 }, { hash := PyData.keyHash P "rs_correct_msg", key := .str "rs_correct_msg" 444, val := .ref 180 }, { hash := PyData.keyHash P "rs_check", key := .str "rs_check" 456, val := .ref 188 }] 35 }
noncomputable def o_142 (P : Params) : Obj := { cls := .none, data := .fields #[.int 4 0, .int 0 0, .ref 20, .int 6 0, .int 0 0, .ref 34, .int 18 0, .int 0 0, .ref 41, .int 20 0, .int 0 0, .ref 48, .int 22 0, .int 0 0, .ref 55, .int 26 0, .int 0 0, .ref 62, .int 32 0, .int 0 0, .ref 69, .int 34 0, .int 0 0, .ref 77, .int 44 0, .int 0 0, .ref 82, .int 46 0, .int 0 0, .ref 89, .int 52 0, .int 0 0, .ref 94, .int 63 0, .int 0 0, .ref 101, .int 73 0, .int 0 0, .ref 108, .int 78 0, .int 0 0, .ref 116, .int 83 0, .int 0 0, .ref 122, .int 99 0, .int 0 0, .ref 128, .int 101 0, .int 0 0, .ref 134, .int 129 0, .int 0 0, .ref 142, .int 161 0, .int 0 0, .ref 150, .int 166 0, .int 0 0, .ref 157, .int 169 0, .int 0 0, .ref 165, .int 178 0, .int 0 0, .ref 171, .int 186 0, .int 0 0, .ref 179, .int 213 0, .int 0 0, .ref 187] }
noncomputable def o_143 (P : Params) : Obj := { cls := .type "tuple", data := .seq #[.int 2 383] }
noncomputable def o_144 (P : Params) : Obj := { cls := .type "tuple", data := .seq #[] }
noncomputable def o_145 (P : Params) : Obj := { cls := .none, data := .fields #[] }
noncomputable def o_146 (P : Params) : Obj := { cls := .type "tuple", data := .seq #[.str "e_pos" 387, .str "generator" 388, .str "e_loc" 389, .str "i" 390] }
noncomputable def o_147 (P : Params) : Obj := { cls := .type "tuple", data := .seq #[] }
noncomputable def o_148 (P : Params) : Obj := { cls := .none, data := .func { name := "rs_find_errata_locator", qualname := "rs_find_errata_locator", params := (defOf "rs_find_errata_locator").1, body := .stmts ((defOf "rs_find_errata_locator").2.1), scope := (defOf "rs_find_errata_locator").2.2, globals := 0, closure := [], defaults := .none, kwdefaults := .none } }
noncomputable def o_149 (P : Params) : Obj := { cls := .type "code", data := .fields #[.str "rs_find_errata_locator" 384, .str "rs_find_errata_locator" 385, .str "/claim/cut.py" 386, .int 161 0, .int 2 0, .int 0 0, .int 0 0, .int 3 0, .ref 145, .bool true, .int 181 0, .ref 146, .none, .ref 147, .ref 148, .ref 149, .int 391 0, .int 161 0, .str "/claim/cut.py" 392] }
noncomputable def o_150 (P : Params) : Obj := { cls := .type "function", data := .func { name := "rs_find_errata_locator", qualname := "rs_find_errata_locator", params := (defOf "rs_find_errata_locator").1, body := .stmts ((defOf "rs_find_errata_locator").2.1), scope := (defOf "rs_find_errata_locator").2.2, globals := 3, closure := [], defaults := .ref 144, kwdefaults := .none, pyModule := .str "reedsolo" 187, code := .ref 150 } }
noncomputable def o_151 (P : Params) : Obj := { cls := .type "tuple", data := .seq #[] }
noncomputable def o_152 (P : Params) : Obj := { cls := .none, data := .fields #[] }
noncomputable def o_153 (P : Params) : Obj := { cls := .type "tuple", data := .seq #[.str "synd" 397, .str "err_loc" 398, .str "nsym" 399, .str "_" 400, .str "remainder" 401] }
noncomputable def o_154 (P : Params) : Obj := { cls := .type "tuple", data := .seq #[] }
noncomputable def o_155 (P : Params) : Obj := { cls := .none, data := .func { name := "rs_find_error_evaluator", qualname := "rs_find_error_evaluator", params := (defOf "rs_find_error_evaluator").1, body := .stmts ((defOf "rs_find_error_evaluator").2.1), scope := (defOf "rs_find_error_evaluator").2.2, globals := 0, closure := [], defaults := .none, kwdefaults := .none } }
noncomputable def o_156 (P : Params) : Obj := { cls := .type "code", data := .fields #[.str "rs_find_error_evaluator" 394, .str "rs_find_error_evaluator" 395, .str "/claim/cut.py" 396, .int 166 0, .int 3 0, .int 0 0, .int 0 0, .int 3 0, .ref 152, .bool true, .int 181 0, .ref 153, .none, .ref 154, .ref 155, .ref 156, .int 402 0, .int 166 0, .str "/claim/cut.py" 403] }
noncomputable def o_157 (P : Params) : Obj := { cls := .type "function", data := .func { name := "rs_find_error_evaluator", qualname := "rs_find_error_evaluator", params := (defOf "rs_find_error_evaluator").1, body := .stmts ((defOf "rs_find_error_evaluator").2.1), scope := (defOf "rs_find_error_evaluator").2.2, globals := 3, closure := [], defaults := .none, kwdefaults := .none, pyModule := .str "reedsolo" 187, code := .ref 157 } }
noncomputable def o_158 (P : Params) : Obj := { cls := .type "tuple", data := .seq #[.int 2 405] }
noncomputable def o_159 (P : Params) : Obj := { cls := .type "tuple", data := .seq #[] }
noncomputable def o_160 (P : Params) : Obj := { cls := .none, data := .fields #[] }
noncomputable def o_161 (P : Params) : Obj := { cls := .type "tuple", data := .seq #[.str "err_loc" 409, .str "nmess" 410, .str "generator" 411, .str "errs" 412, .str "err_pos" 413, .str "i" 414] }
noncomputable def o_162 (P : Params) : Obj := { cls := .type "tuple", data := .seq #[] }
noncomputable def o_163 (P : Params) : Obj := { cls := .none, data := .func { name := "rs_find_errors", qualname := "rs_find_errors", params := (defOf "rs_find_errors").1, body := .stmts ((defOf "rs_find_errors").2.1), scope := (defOf "rs_find_errors").2.2, globals := 0, closure := [], defaults := .none, kwdefaults := .none } }
noncomputable def o_164 (P : Params) : Obj := { cls := .type "code", data := .fields #[.str "rs_find_errors" 406, .str "rs_find_errors" 407, .str "/claim/cut.py" 408, .int 169 0, .int 3 0, .int 0 0, .int 0 0, .int 3 0, .ref 160, .bool true, .int 181 0, .ref 161, .none, .ref 162, .ref 163, .ref 164, .int 415 0, .int 169 0, .str "/claim/cut.py" 416] }
noncomputable def o_165 (P : Params) : Obj := { cls := .type "function", data := .func { name := "rs_find_errors", qualname := "rs_find_errors", params := (defOf "rs_find_errors").1, body := .stmts ((defOf "rs_find_errors").2.1), scope := (defOf "rs_find_errors").2.2, globals := 3, closure := [], defaults := .ref 159, kwdefaults := .none, pyModule := .str "reedsolo" 187, code := .ref 165 } }
noncomputable def o_166 (P : Params) : Obj := { cls := .type "tuple", data := .seq #[.int 2 418] }
noncomputable def o_167 (P : Params) : Obj := { cls := .type "tuple", data := .seq #[] }
noncomputable def o_168 (P : Params) : Obj := { cls := .none, data := .fields #[] }
noncomputable def o_169 (P : Params) : Obj := { cls := .none, data := .func { name := "rs_forney_syndromes", qualname := "rs_forney_syndromes", params := (defOf "rs_forney_syndromes").1, body := .stmts ((defOf "rs_forney_syndromes").2.1), scope := (defOf "rs_forney_syndromes").2.2, globals := 0, closure := [], defaults := .none, kwdefaults := .none } }
noncomputable def o_170 (P : Params) : Obj := { cls := .type "code", data := .fields #[.str "rs_forney_syndromes" 419, .str "rs_forney_syndromes" 420, .str "/claim/cut.py" 421, .int 178 0, .int 4 0, .int 0 0, .int 0 0, .int 3 0, .ref 168, .bool true, .int 181 0, .ref 169, .none, .none, .none, .ref 170, .int 422 0, .int 178 0, .str "/claim/cut.py" 423] }
noncomputable def o_171 (P : Params) : Obj := { cls := .type "function", data := .func { name := "rs_forney_syndromes", qualname := "rs_forney_syndromes", params := (defOf "rs_forney_syndromes").1, body := .stmts ((defOf "rs_forney_syndromes").2.1), scope := (defOf "rs_forney_syndromes").2.2, globals := 3, closure := [], defaults := .ref 167, kwdefaults := .none, pyModule := .str "reedsolo" 187, code := .ref 171 } }
noncomputable def o_172 (P : Params) : Obj := { cls := .type "tuple", data := .seq #[.int 0 425, .int 2 426, .none, .bool false] }
noncomputable def o_173 (P : Params) : Obj := { cls := .type "tuple", data := .seq #[] }
noncomputable def o_174 (P : Params) : Obj := { cls := .none, data := .fields #[] }
noncomputable def o_175 (P : Params) : Obj := { cls := .type "tuple", data := .seq #[.str "msg_in" 430, .str "nsym" 431, .str "fcr" 432, .str "generator" 433, .str "erase_pos" 434, .str "only_erasures" 435, .str "msg_out" 436, .str "e_pos" 437, .str "synd" 438, .str "err_pos" 439, .str "fsynd" 440, .str "err_loc" 441] }
noncomputable def o_176 (P : Params) : Obj := { cls := .type "tuple", data := .seq #[] }
noncomputable def o_177 (P : Params) : Obj := { cls := .none, data := .func { name := "rs_correct_msg", qualname := "rs_correct_msg", params := (defOf "rs_correct_msg").1, body := .stmts ((defOf "rs_correct_msg").2.1), scope := (defOf "rs_correct_msg").2.2, globals := 0, closure := [], defaults := .none, kwdefaults := .none } }
noncomputable def o_178 (P : Params) : Obj := { cls := .type "code", data := .fields #[.str "rs_correct_msg" 427, .str "rs_correct_msg" 428, .str "/claim/cut.py" 429, .int 186 0, .int 6 0, .int 0 0, .int 0 0, .int 3 0, .ref 174, .bool true, .int 181 0, .ref 175, .none, .ref 176, .ref 177, .ref 178, .int 442 0, .int 186 0, .str "/claim/cut.py" 443] }
noncomputable def o_179 (P : Params) : Obj := { cls := .type "function", data := .func { name := "rs_correct_msg", qualname := "rs_correct_msg", params := (defOf "rs_correct_msg").1, body := .stmts ((defOf "rs_correct_msg").2.1), scope := (defOf "rs_correct_msg").2.2, globals := 3, closure := [], defaults := .ref 173, kwdefaults := .none, pyModule := .str "reedsolo" 187, code := .ref 179 } }
noncomputable def o_180 (P : Params) : Obj := { cls := .type "tuple", data := .seq #[.int 0 445, .int 2 446] }
noncomputable def o_181 (P : Params) : Obj := { cls := .type "tuple", data := .seq #[] }
noncomputable def o_182 (P : Params) : Obj := { cls := .none, data := .fields #[] }
noncomputable def o_183 (P : Params) : Obj := { cls := .type "tuple", data := .seq #[.str "msg" 450, .str "nsym" 451, .str "fcr" 452, .str "generator" 453] }
noncomputable def o_184 (P : Params) : Obj := { cls := .type "tuple", data := .seq #[] }
noncomputable def o_185 (P : Params) : Obj := { cls := .none, data := .func { name := "rs_check", qualname := "rs_check", params := (defOf "rs_check").1, body := .stmts ((defOf "rs_check").2.1), scope := (defOf "rs_check").2.2, globals := 0, closure := [], defaults := .none, kwdefaults := .none } }
noncomputable def o_186 (P : Params) : Obj := { cls := .type "code", data := .fields #[.str "rs_check" 447, .str "rs_check" 448, .str "/claim/cut.py" 449, .int 213 0, .int 4 0, .int 0 0, .int 0 0, .int 3 0, .ref 182, .bool true, .int 181 0, .ref 183, .none, .ref 184, .ref 185, .ref 186, .int 454 0, .int 213 0, .str "/claim/cut.py" 455] }
noncomputable def o_187 (P : Params) : Obj := { cls := .type "function", data := .func { name := "rs_check", qualname := "rs_check", params := (defOf "rs_check").1, body := .stmts ((defOf "rs_check").2.1), scope := (defOf "rs_check").2.2, globals := 3, closure := [], defaults := .ref 181, kwdefaults := .none, pyModule := .str "reedsolo" 187, code := .ref 187 } }
noncomputable def tree_4 (P : Params) : BT := W.BT.node (W.boot_o_0 P) (W.BT.node (W.boot_o_1 P) (W.BT.node (W.boot_o_3 P) (W.BT.node (W.boot_o_7 P) W.BT.nil W.BT.nil) (W.BT.node (o_1 P) W.BT.nil W.BT.nil)) (W.BT.node (W.boot_o_5 P) (W.BT.node (W.boot_o_9 P) W.BT.nil W.BT.nil) (W.BT.node (o_3 P) W.BT.nil W.BT.nil))) (W.BT.node (W.boot_o_2 P) (W.BT.node (W.boot_o_4 P) (W.BT.node (W.boot_o_8 P) W.BT.nil W.BT.nil) (W.BT.node (o_2 P) W.BT.nil W.BT.nil)) (W.BT.node (W.boot_o_6 P) (W.BT.node (W.boot_o_10 P) W.BT.nil W.BT.nil) (W.BT.node (o_4 P) W.BT.nil W.BT.nil)))
noncomputable def tree_187 (P : Params) : BT := W.BT.node (W.boot_o_0 P) (W.BT.node (W.boot_o_1 P) (W.BT.node (o_141 P) (W.BT.node (W.boot_o_7 P) (W.BT.node (o_8 P) (W.BT.node (o_24 P) (W.BT.node (o_56 P) (W.BT.node (o_123 P) W.BT.nil W.BT.nil) W.BT.nil) (W.BT.node (o_91 P) (W.BT.node (o_158 P) W.BT.nil W.BT.nil) W.BT.nil)) (W.BT.node (o_40 P) (W.BT.node (o_75 P) (W.BT.node (o_139 P) W.BT.nil W.BT.nil) W.BT.nil) (W.BT.node (o_107 P) (W.BT.node (o_174 P) W.BT.nil W.BT.nil) W.BT.nil))) (W.BT.node (o_16 P) (W.BT.node (o_32 P) (W.BT.node (o_67 P) (W.BT.node (o_131 P) W.BT.nil W.BT.nil) W.BT.nil) (W.BT.node (o_99 P) (W.BT.node (o_166 P) W.BT.nil W.BT.nil) W.BT.nil)) (W.BT.node (o_48 P) (W.BT.node (o_83 P) (W.BT.node (o_150 P) W.BT.nil W.BT.nil) W.BT.nil) (W.BT.node (o_115 P) (W.BT.node (o_182 P) W.BT.nil W.BT.nil) W.BT.nil)))) (W.BT.node (o_1 P) (W.BT.node (o_12 P) (W.BT.node (o_28 P) (W.BT.node (o_63 P) (W.BT.node (o_127 P) W.BT.nil W.BT.nil) W.BT.nil) (W.BT.node (o_95 P) (W.BT.node (o_162 P) W.BT.nil W.BT.nil) W.BT.nil)) (W.BT.node (o_44 P) (W.BT.node (o_79 P) (W.BT.node (o_146 P) W.BT.nil W.BT.nil) W.BT.nil) (W.BT.node (o_111 P) (W.BT.node (o_178 P) W.BT.nil W.BT.nil) W.BT.nil))) (W.BT.node (o_20 P) (W.BT.node (o_36 P) (W.BT.node (o_71 P) (W.BT.node (o_135 P) W.BT.nil W.BT.nil) W.BT.nil) (W.BT.node (o_103 P) (W.BT.node (o_170 P) W.BT.nil W.BT.nil) W.BT.nil)) (W.BT.node (o_52 P) (W.BT.node (o_87 P) (W.BT.node (o_154 P) W.BT.nil W.BT.nil) W.BT.nil) (W.BT.node (o_119 P) (W.BT.node (o_186 P) W.BT.nil W.BT.nil) W.BT.nil))))) (W.BT.node (W.boot_o_5 P) (W.BT.node (W.boot_o_9 P) (W.BT.node (o_10 P) (W.BT.node (o_26 P) (W.BT.node (o_61 P) (W.BT.node (o_125 P) W.BT.nil W.BT.nil) W.BT.nil) (W.BT.node (o_93 P) (W.BT.node (o_160 P) W.BT.nil W.BT.nil) W.BT.nil)) (W.BT.node (o_42 P) (W.BT.node (o_77 P) (W.BT.node (o_144 P) W.BT.nil W.BT.nil) W.BT.nil) (W.BT.node (o_109 P) (W.BT.node (o_176 P) W.BT.nil W.BT.nil) W.BT.nil))) (W.BT.node (o_18 P) (W.BT.node (o_34 P) (W.BT.node (o_69 P) (W.BT.node (o_133 P) W.BT.nil W.BT.nil) W.BT.nil) (W.BT.node (o_101 P) (W.BT.node (o_168 P) W.BT.nil W.BT.nil) W.BT.nil)) (W.BT.node (o_50 P) (W.BT.node (o_85 P) (W.BT.node (o_152 P) W.BT.nil W.BT.nil) W.BT.nil) (W.BT.node (o_117 P) (W.BT.node (o_184 P) W.BT.nil W.BT.nil) W.BT.nil)))) (W.BT.node (o_3 P) (W.BT.node (o_14 P) (W.BT.node (o_30 P) (W.BT.node (o_65 P) (W.BT.node (o_129 P) W.BT.nil W.BT.nil) W.BT.nil) (W.BT.node (o_97 P) (W.BT.node (o_164 P) W.BT.nil W.BT.nil) W.BT.nil)) (W.BT.node (o_46 P) (W.BT.node (o_81 P) (W.BT.node (o_148 P) W.BT.nil W.BT.nil) W.BT.nil) (W.BT.node (o_113 P) (W.BT.node (o_180 P) W.BT.nil W.BT.nil) W.BT.nil))) (W.BT.node (o_22 P) (W.BT.node (o_38 P) (W.BT.node (o_73 P) (W.BT.node (o_137 P) W.BT.nil W.BT.nil) W.BT.nil) (W.BT.node (o_105 P) (W.BT.node (o_172 P) W.BT.nil W.BT.nil) W.BT.nil)) (W.BT.node (o_54 P) (W.BT.node (o_89 P) (W.BT.node (o_156 P) W.BT.nil W.BT.nil) W.BT.nil) (W.BT.node (o_121 P) W.BT.nil W.BT.nil)))))) (W.BT.node (o_5 P) (W.BT.node (W.boot_o_4 P) (W.BT.node (W.boot_o_8 P) (W.BT.node (o_9 P) (W.BT.node (o_25 P) (W.BT.node (o_60 P) (W.BT.node (o_124 P) W.BT.nil W.BT.nil) W.BT.nil) (W.BT.node (o_92 P) (W.BT.node (o_159 P) W.BT.nil W.BT.nil) W.BT.nil)) (W.BT.node (o_41 P) (W.BT.node (o_76 P) (W.BT.node (o_143 P) W.BT.nil W.BT.nil) W.BT.nil) (W.BT.node (o_108 P) (W.BT.node (o_175 P) W.BT.nil W.BT.nil) W.BT.nil))) (W.BT.node (o_17 P) (W.BT.node (o_33 P) (W.BT.node (o_68 P) (W.BT.node (o_132 P) W.BT.nil W.BT.nil) W.BT.nil) (W.BT.node (o_100 P) (W.BT.node (o_167 P) W.BT.nil W.BT.nil) W.BT.nil)) (W.BT.node (o_49 P) (W.BT.node (o_84 P) (W.BT.node (o_151 P) W.BT.nil W.BT.nil) W.BT.nil) (W.BT.node (o_116 P) (W.BT.node (o_183 P) W.BT.nil W.BT.nil) W.BT.nil)))) (W.BT.node (o_142 P) (W.BT.node (o_13 P) (W.BT.node (o_29 P) (W.BT.node (o_64 P) (W.BT.node (o_128 P) W.BT.nil W.BT.nil) W.BT.nil) (W.BT.node (o_96 P) (W.BT.node (o_163 P) W.BT.nil W.BT.nil) W.BT.nil)) (W.BT.node (o_45 P) (W.BT.node (o_80 P) (W.BT.node (o_147 P) W.BT.nil W.BT.nil) W.BT.nil) (W.BT.node (o_112 P) (W.BT.node (o_179 P) W.BT.nil W.BT.nil) W.BT.nil))) (W.BT.node (o_21 P) (W.BT.node (o_37 P) (W.BT.node (o_72 P) (W.BT.node (o_136 P) W.BT.nil W.BT.nil) W.BT.nil) (W.BT.node (o_104 P) (W.BT.node (o_171 P) W.BT.nil W.BT.nil) W.BT.nil)) (W.BT.node (o_53 P) (W.BT.node (o_88 P) (W.BT.node (o_155 P) W.BT.nil W.BT.nil) W.BT.nil) (W.BT.node (o_120 P) (W.BT.node (o_187 P) W.BT.nil W.BT.nil) W.BT.nil))))) (W.BT.node (W.boot_o_6 P) (W.BT.node (W.boot_o_10 P) (W.BT.node (o_11 P) (W.BT.node (o_27 P) (W.BT.node (o_62 P) (W.BT.node (o_126 P) W.BT.nil W.BT.nil) W.BT.nil) (W.BT.node (o_94 P) (W.BT.node (o_161 P) W.BT.nil W.BT.nil) W.BT.nil)) (W.BT.node (o_43 P) (W.BT.node (o_78 P) (W.BT.node (o_145 P) W.BT.nil W.BT.nil) W.BT.nil) (W.BT.node (o_110 P) (W.BT.node (o_177 P) W.BT.nil W.BT.nil) W.BT.nil))) (W.BT.node (o_19 P) (W.BT.node (o_35 P) (W.BT.node (o_70 P) (W.BT.node (o_134 P) W.BT.nil W.BT.nil) W.BT.nil) (W.BT.node (o_102 P) (W.BT.node (o_169 P) W.BT.nil W.BT.nil) W.BT.nil)) (W.BT.node (o_51 P) (W.BT.node (o_86 P) (W.BT.node (o_153 P) W.BT.nil W.BT.nil) W.BT.nil) (W.BT.node (o_118 P) (W.BT.node (o_185 P) W.BT.nil W.BT.nil) W.BT.nil)))) (W.BT.node (o_4 P) (W.BT.node (o_15 P) (W.BT.node (o_31 P) (W.BT.node (o_66 P) (W.BT.node (o_130 P) W.BT.nil W.BT.nil) W.BT.nil) (W.BT.node (o_98 P) (W.BT.node (o_165 P) W.BT.nil W.BT.nil) W.BT.nil)) (W.BT.node (o_47 P) (W.BT.node (o_82 P) (W.BT.node (o_149 P) W.BT.nil W.BT.nil) W.BT.nil) (W.BT.node (o_114 P) (W.BT.node (o_181 P) W.BT.nil W.BT.nil) W.BT.nil))) (W.BT.node (o_23 P) (W.BT.node (o_39 P) (W.BT.node (o_74 P) (W.BT.node (o_138 P) W.BT.nil W.BT.nil) W.BT.nil) (W.BT.node (o_106 P) (W.BT.node (o_173 P) W.BT.nil W.BT.nil) W.BT.nil)) (W.BT.node (o_55 P) (W.BT.node (o_90 P) (W.BT.node (o_157 P) W.BT.nil W.BT.nil) W.BT.nil) (W.BT.node (o_122 P) W.BT.nil W.BT.nil))))))
noncomputable def env_1 : Env := { scope := PySem.Challenge.pw_md0036_01.main.scope, locals := mainNs, globals := mainNs, cells := [], code := .ref 13, frame := some 14 }
noncomputable def sts : List Stmt := (behindTheImports PySem.Challenge.pw_md0036_01).take 27
set_option maxRecDepth 100000 in
theorem piece (w : World) (p : Program) (b : List Stmt) (os : OsState) :
    Fast.tw10110043849684766642 Fast.tw14364793385576792824 p w 11 (some (.ref 6)) 1 982 { tree := tree_4 w.params, n := 15, life := {}, gens := { toList := [] }, drawn := {}, toks := 187, os := os }
      (piecesOf sts env_1 (.body b env_1) ⟨0, 0, 0, 0⟩ [topFrame ⟨0, 0, 0, 0⟩]) =
    some (.next, { tree := tree_187 w.params, n := 189, life := {}, gens := { toList := [] }, drawn := {}, toks := 457, os := os }, .body b env_1, ⟨213, 0, 214, 65⟩) := by
  kernel_rfl
theorem chain (p : Program) (b : List Stmt) (w : World) (os : OsState) (rest : List Stmt) (N : Nat) (r : Shared)
    (h : topRun treeTable p w 11 (some (.ref 6)) N ({ tree := tree_187 w.params, n := 189, life := {}, gens := { toList := [] }, drawn := {}, toks := 457, os := os } : SharedT).abs (restOf rest env_1 (.body b env_1) ⟨213, 0, 214, 65⟩ [topFrame ⟨0, 0, 0, 0⟩]) = some r) :
    topRun treeTable p w 11 (some (.ref 6)) (982 + N) ({ tree := tree_4 w.params, n := 15, life := {}, gens := { toList := [] }, drawn := {}, toks := 187, os := os } : SharedT).abs (restOf (sts ++ rest) env_1 (.body b env_1) ⟨0, 0, 0, 0⟩ [topFrame ⟨0, 0, 0, 0⟩]) = some r := by
  have e := piece w p b os
  rw [← Fast.te10110043849684766642, ← Fast.te14364793385576792824] at e
  exact piece_app (segRun_of e) h
end top27
end Mine
end
section
open PySem PySem.W PyProof.Rows
namespace Mine
noncomputable def T27 (w : World) (os : OsState) : SharedT := { tree := top27.tree_187 w.params, n := 189, life := {}, gens := #[], drawn := {}, toks := 457, os := os }
noncomputable def S27 (w : World) (os : OsState) : Shared := (T27 w os).abs
noncomputable def O27 (w : World) (a : Nat) : Obj := ((top27.tree_187 w.params).get a).getD default
theorem get27 {w : World} {os : OsState} {a : Nat} {o : Obj} (h : a < 189) (e : O27 w a = o) (ha : alive o = some o) : (S27 w os).heap.get? a = some o := by
  subst e
  show (absHeap (top27.tree_187 w.params) 189 {}).get? a = _
  unfold Heap.get?
  rw [absHeap_at, if_pos h]
  show (match some (O27 w a) with | some ⟨_, _, .freed, _⟩ => none | o => o) = some (O27 w a)
  revert ha
  generalize O27 w a = o
  obtain ⟨c, d, dt, sl⟩ := o
  intro ha
  cases dt <;> first | rfl | cases ha
noncomputable def K27 (w : World) (h : Heap) : Prop := ∀ os b o, b ≠ 3 → b ≠ 12 → (S27 w os).heap.get? b = some o → h.get? b = some o
theorem K27.get {w : World} {h : Heap} (K : K27 w h) {a : Nat} {o : Obj} (os : OsState) (h3 : a ≠ 3 ∧ a ≠ 12) (ha : a < 189) (e : O27 w a = o) (hal : alive o = some o) : h.get? a = some o := K os a o h3.1 h3.2 (get27 ha e hal)
noncomputable def fdOf (o : Obj) : FuncData := match o.data with
  | .func fd => fd
  | _ => default
end Mine
end
section
open PySem PySem.W PyProof.Rows
namespace Mine
noncomputable def fldOf (o : Obj) : Array Value := match o.data with
  | .fields vs => vs
  | _ => #[]
noncomputable def tok1 (o : Obj) : Nat := match ((fldOf o)[1]? : Option Value) with
  | some (Value.str _ t) => t
  | _ => 0
noncomputable def seqOf (o : Obj) : Array Value := match o.data with
  | .seq vs _ => vs
  | _ => #[]
noncomputable def seqN (o : Obj) : Nat := match o.data with
  | .seq _ n => n
  | _ => 0
noncomputable def pcs : List Bool := [true, false, true, true, true, true, true, false, false, false, false, true, false, false, true, false, false, false, false, true, true, false, true]
noncomputable def specs : List Spec := [noS, initS, subS, invS, mulS, divS, powS, scaleS, addS, polyMulS, polyDivS, evalS, genS, encS, synS, locS, evrS, errS, bmS, findS, fornS, corS, checkS]
theorem def_gf_mult_noLUT {w : World} {h : Heap} (K : K27 w h) : Def h 78 (fdOf (O27 w 78)) (defOf "gf_mult_noLUT").2.2 (defOf "gf_mult_noLUT").2.1 :=
  ⟨⟨O27 w 78, K.get default (by decide) (by decide) rfl (by kernel_rfl), by kernel_rfl⟩, ⟨77, O27 w 77, fldOf (O27 w 77), tok1 (O27 w 77), by kernel_rfl, K.get default (by decide) (by decide) rfl (by kernel_rfl), by kernel_rfl, by kernel_rfl⟩, by kernel_rfl, by kernel_rfl, by kernel_rfl, by kernel_rfl, by kernel_rfl⟩
theorem def_init_tables {w : World} {h : Heap} (K : K27 w h) : Def h 35 (fdOf (O27 w 35)) (defOf "init_tables").2.2 (defOf "init_tables").2.1 :=
  ⟨⟨O27 w 35, K.get default (by decide) (by decide) rfl (by kernel_rfl), by kernel_rfl⟩, ⟨34, O27 w 34, fldOf (O27 w 34), tok1 (O27 w 34), by kernel_rfl, K.get default (by decide) (by decide) rfl (by kernel_rfl), by kernel_rfl, by kernel_rfl⟩, by kernel_rfl, by kernel_rfl, by kernel_rfl, by kernel_rfl, by kernel_rfl⟩
theorem def_gf_sub {w : World} {h : Heap} (K : K27 w h) : Def h 42 (fdOf (O27 w 42)) (defOf "gf_sub").2.2 (defOf "gf_sub").2.1 :=
  ⟨⟨O27 w 42, K.get default (by decide) (by decide) rfl (by kernel_rfl), by kernel_rfl⟩, ⟨41, O27 w 41, fldOf (O27 w 41), tok1 (O27 w 41), by kernel_rfl, K.get default (by decide) (by decide) rfl (by kernel_rfl), by kernel_rfl, by kernel_rfl⟩, by kernel_rfl, by kernel_rfl, by kernel_rfl, by kernel_rfl, by kernel_rfl⟩
theorem def_gf_inverse {w : World} {h : Heap} (K : K27 w h) : Def h 49 (fdOf (O27 w 49)) (defOf "gf_inverse").2.2 (defOf "gf_inverse").2.1 :=
  ⟨⟨O27 w 49, K.get default (by decide) (by decide) rfl (by kernel_rfl), by kernel_rfl⟩, ⟨48, O27 w 48, fldOf (O27 w 48), tok1 (O27 w 48), by kernel_rfl, K.get default (by decide) (by decide) rfl (by kernel_rfl), by kernel_rfl, by kernel_rfl⟩, by kernel_rfl, by kernel_rfl, by kernel_rfl, by kernel_rfl, by kernel_rfl⟩
theorem def_gf_mul {w : World} {h : Heap} (K : K27 w h) : Def h 56 (fdOf (O27 w 56)) (defOf "gf_mul").2.2 (defOf "gf_mul").2.1 :=
  ⟨⟨O27 w 56, K.get default (by decide) (by decide) rfl (by kernel_rfl), by kernel_rfl⟩, ⟨55, O27 w 55, fldOf (O27 w 55), tok1 (O27 w 55), by kernel_rfl, K.get default (by decide) (by decide) rfl (by kernel_rfl), by kernel_rfl, by kernel_rfl⟩, by kernel_rfl, by kernel_rfl, by kernel_rfl, by kernel_rfl, by kernel_rfl⟩
theorem def_gf_div {w : World} {h : Heap} (K : K27 w h) : Def h 63 (fdOf (O27 w 63)) (defOf "gf_div").2.2 (defOf "gf_div").2.1 :=
  ⟨⟨O27 w 63, K.get default (by decide) (by decide) rfl (by kernel_rfl), by kernel_rfl⟩, ⟨62, O27 w 62, fldOf (O27 w 62), tok1 (O27 w 62), by kernel_rfl, K.get default (by decide) (by decide) rfl (by kernel_rfl), by kernel_rfl, by kernel_rfl⟩, by kernel_rfl, by kernel_rfl, by kernel_rfl, by kernel_rfl, by kernel_rfl⟩
theorem def_gf_pow {w : World} {h : Heap} (K : K27 w h) : Def h 70 (fdOf (O27 w 70)) (defOf "gf_pow").2.2 (defOf "gf_pow").2.1 :=
  ⟨⟨O27 w 70, K.get default (by decide) (by decide) rfl (by kernel_rfl), by kernel_rfl⟩, ⟨69, O27 w 69, fldOf (O27 w 69), tok1 (O27 w 69), by kernel_rfl, K.get default (by decide) (by decide) rfl (by kernel_rfl), by kernel_rfl, by kernel_rfl⟩, by kernel_rfl, by kernel_rfl, by kernel_rfl, by kernel_rfl, by kernel_rfl⟩
theorem def_gf_poly_scale {w : World} {h : Heap} (K : K27 w h) : Def h 83 (fdOf (O27 w 83)) (defOf "gf_poly_scale").2.2 (defOf "gf_poly_scale").2.1 :=
  ⟨⟨O27 w 83, K.get default (by decide) (by decide) rfl (by kernel_rfl), by kernel_rfl⟩, ⟨82, O27 w 82, fldOf (O27 w 82), tok1 (O27 w 82), by kernel_rfl, K.get default (by decide) (by decide) rfl (by kernel_rfl), by kernel_rfl, by kernel_rfl⟩, by kernel_rfl, by kernel_rfl, by kernel_rfl, by kernel_rfl, by kernel_rfl⟩
theorem def_gf_poly_add {w : World} {h : Heap} (K : K27 w h) : Def h 90 (fdOf (O27 w 90)) (defOf "gf_poly_add").2.2 (defOf "gf_poly_add").2.1 :=
  ⟨⟨O27 w 90, K.get default (by decide) (by decide) rfl (by kernel_rfl), by kernel_rfl⟩, ⟨89, O27 w 89, fldOf (O27 w 89), tok1 (O27 w 89), by kernel_rfl, K.get default (by decide) (by decide) rfl (by kernel_rfl), by kernel_rfl, by kernel_rfl⟩, by kernel_rfl, by kernel_rfl, by kernel_rfl, by kernel_rfl, by kernel_rfl⟩
theorem def_gf_poly_mul {w : World} {h : Heap} (K : K27 w h) : Def h 95 (fdOf (O27 w 95)) (defOf "gf_poly_mul").2.2 (defOf "gf_poly_mul").2.1 :=
  ⟨⟨O27 w 95, K.get default (by decide) (by decide) rfl (by kernel_rfl), by kernel_rfl⟩, ⟨94, O27 w 94, fldOf (O27 w 94), tok1 (O27 w 94), by kernel_rfl, K.get default (by decide) (by decide) rfl (by kernel_rfl), by kernel_rfl, by kernel_rfl⟩, by kernel_rfl, by kernel_rfl, by kernel_rfl, by kernel_rfl, by kernel_rfl⟩
theorem def_gf_poly_div {w : World} {h : Heap} (K : K27 w h) : Def h 102 (fdOf (O27 w 102)) (defOf "gf_poly_div").2.2 (defOf "gf_poly_div").2.1 :=
  ⟨⟨O27 w 102, K.get default (by decide) (by decide) rfl (by kernel_rfl), by kernel_rfl⟩, ⟨101, O27 w 101, fldOf (O27 w 101), tok1 (O27 w 101), by kernel_rfl, K.get default (by decide) (by decide) rfl (by kernel_rfl), by kernel_rfl, by kernel_rfl⟩, by kernel_rfl, by kernel_rfl, by kernel_rfl, by kernel_rfl, by kernel_rfl⟩
theorem def_gf_poly_eval {w : World} {h : Heap} (K : K27 w h) : Def h 109 (fdOf (O27 w 109)) (defOf "gf_poly_eval").2.2 (defOf "gf_poly_eval").2.1 :=
  ⟨⟨O27 w 109, K.get default (by decide) (by decide) rfl (by kernel_rfl), by kernel_rfl⟩, ⟨108, O27 w 108, fldOf (O27 w 108), tok1 (O27 w 108), by kernel_rfl, K.get default (by decide) (by decide) rfl (by kernel_rfl), by kernel_rfl, by kernel_rfl⟩, by kernel_rfl, by kernel_rfl, by kernel_rfl, by kernel_rfl, by kernel_rfl⟩
theorem def_rs_generator_poly {w : World} {h : Heap} (K : K27 w h) : Def h 117 (fdOf (O27 w 117)) (defOf "rs_generator_poly").2.2 (defOf "rs_generator_poly").2.1 :=
  ⟨⟨O27 w 117, K.get default (by decide) (by decide) rfl (by kernel_rfl), by kernel_rfl⟩, ⟨116, O27 w 116, fldOf (O27 w 116), tok1 (O27 w 116), by kernel_rfl, K.get default (by decide) (by decide) rfl (by kernel_rfl), by kernel_rfl, by kernel_rfl⟩, by kernel_rfl, by kernel_rfl, by kernel_rfl, by kernel_rfl, by kernel_rfl⟩
theorem def_rs_encode_msg {w : World} {h : Heap} (K : K27 w h) : Def h 123 (fdOf (O27 w 123)) (defOf "rs_encode_msg").2.2 (defOf "rs_encode_msg").2.1 :=
  ⟨⟨O27 w 123, K.get default (by decide) (by decide) rfl (by kernel_rfl), by kernel_rfl⟩, ⟨122, O27 w 122, fldOf (O27 w 122), tok1 (O27 w 122), by kernel_rfl, K.get default (by decide) (by decide) rfl (by kernel_rfl), by kernel_rfl, by kernel_rfl⟩, by kernel_rfl, by kernel_rfl, by kernel_rfl, by kernel_rfl, by kernel_rfl⟩
theorem def_rs_calc_syndromes {w : World} {h : Heap} (K : K27 w h) : Def h 129 (fdOf (O27 w 129)) (defOf "rs_calc_syndromes").2.2 (defOf "rs_calc_syndromes").2.1 :=
  ⟨⟨O27 w 129, K.get default (by decide) (by decide) rfl (by kernel_rfl), by kernel_rfl⟩, ⟨128, O27 w 128, fldOf (O27 w 128), tok1 (O27 w 128), by kernel_rfl, K.get default (by decide) (by decide) rfl (by kernel_rfl), by kernel_rfl, by kernel_rfl⟩, by kernel_rfl, by kernel_rfl, by kernel_rfl, by kernel_rfl, by kernel_rfl⟩
theorem def_rs_find_errata_locator {w : World} {h : Heap} (K : K27 w h) : Def h 151 (fdOf (O27 w 151)) (defOf "rs_find_errata_locator").2.2 (defOf "rs_find_errata_locator").2.1 :=
  ⟨⟨O27 w 151, K.get default (by decide) (by decide) rfl (by kernel_rfl), by kernel_rfl⟩, ⟨150, O27 w 150, fldOf (O27 w 150), tok1 (O27 w 150), by kernel_rfl, K.get default (by decide) (by decide) rfl (by kernel_rfl), by kernel_rfl, by kernel_rfl⟩, by kernel_rfl, by kernel_rfl, by kernel_rfl, by kernel_rfl, by kernel_rfl⟩
theorem def_rs_find_error_evaluator {w : World} {h : Heap} (K : K27 w h) : Def h 158 (fdOf (O27 w 158)) (defOf "rs_find_error_evaluator").2.2 (defOf "rs_find_error_evaluator").2.1 :=
  ⟨⟨O27 w 158, K.get default (by decide) (by decide) rfl (by kernel_rfl), by kernel_rfl⟩, ⟨157, O27 w 157, fldOf (O27 w 157), tok1 (O27 w 157), by kernel_rfl, K.get default (by decide) (by decide) rfl (by kernel_rfl), by kernel_rfl, by kernel_rfl⟩, by kernel_rfl, by kernel_rfl, by kernel_rfl, by kernel_rfl, by kernel_rfl⟩
theorem def_rs_correct_errata {w : World} {h : Heap} (K : K27 w h) : Def h 135 (fdOf (O27 w 135)) (defOf "rs_correct_errata").2.2 (defOf "rs_correct_errata").2.1 :=
  ⟨⟨O27 w 135, K.get default (by decide) (by decide) rfl (by kernel_rfl), by kernel_rfl⟩, ⟨134, O27 w 134, fldOf (O27 w 134), tok1 (O27 w 134), by kernel_rfl, K.get default (by decide) (by decide) rfl (by kernel_rfl), by kernel_rfl, by kernel_rfl⟩, by kernel_rfl, by kernel_rfl, by kernel_rfl, by kernel_rfl, by kernel_rfl⟩
theorem def_rs_find_error_locator {w : World} {h : Heap} (K : K27 w h) : Def h 143 (fdOf (O27 w 143)) (defOf "rs_find_error_locator").2.2 (defOf "rs_find_error_locator").2.1 :=
  ⟨⟨O27 w 143, K.get default (by decide) (by decide) rfl (by kernel_rfl), by kernel_rfl⟩, ⟨142, O27 w 142, fldOf (O27 w 142), tok1 (O27 w 142), by kernel_rfl, K.get default (by decide) (by decide) rfl (by kernel_rfl), by kernel_rfl, by kernel_rfl⟩, by kernel_rfl, by kernel_rfl, by kernel_rfl, by kernel_rfl, by kernel_rfl⟩
theorem def_rs_find_errors {w : World} {h : Heap} (K : K27 w h) : Def h 166 (fdOf (O27 w 166)) (defOf "rs_find_errors").2.2 (defOf "rs_find_errors").2.1 :=
  ⟨⟨O27 w 166, K.get default (by decide) (by decide) rfl (by kernel_rfl), by kernel_rfl⟩, ⟨165, O27 w 165, fldOf (O27 w 165), tok1 (O27 w 165), by kernel_rfl, K.get default (by decide) (by decide) rfl (by kernel_rfl), by kernel_rfl, by kernel_rfl⟩, by kernel_rfl, by kernel_rfl, by kernel_rfl, by kernel_rfl, by kernel_rfl⟩
theorem def_rs_forney_syndromes {w : World} {h : Heap} (K : K27 w h) : Def h 172 (fdOf (O27 w 172)) (defOf "rs_forney_syndromes").2.2 (defOf "rs_forney_syndromes").2.1 :=
  ⟨⟨O27 w 172, K.get default (by decide) (by decide) rfl (by kernel_rfl), by kernel_rfl⟩, ⟨171, O27 w 171, fldOf (O27 w 171), tok1 (O27 w 171), by kernel_rfl, K.get default (by decide) (by decide) rfl (by kernel_rfl), by kernel_rfl, by kernel_rfl⟩, by kernel_rfl, by kernel_rfl, by kernel_rfl, by kernel_rfl, by kernel_rfl⟩
theorem def_rs_correct_msg {w : World} {h : Heap} (K : K27 w h) : Def h 180 (fdOf (O27 w 180)) (defOf "rs_correct_msg").2.2 (defOf "rs_correct_msg").2.1 :=
  ⟨⟨O27 w 180, K.get default (by decide) (by decide) rfl (by kernel_rfl), by kernel_rfl⟩, ⟨179, O27 w 179, fldOf (O27 w 179), tok1 (O27 w 179), by kernel_rfl, K.get default (by decide) (by decide) rfl (by kernel_rfl), by kernel_rfl, by kernel_rfl⟩, by kernel_rfl, by kernel_rfl, by kernel_rfl, by kernel_rfl, by kernel_rfl⟩
theorem def_rs_check {w : World} {h : Heap} (K : K27 w h) : Def h 188 (fdOf (O27 w 188)) (defOf "rs_check").2.2 (defOf "rs_check").2.1 :=
  ⟨⟨O27 w 188, K.get default (by decide) (by decide) rfl (by kernel_rfl), by kernel_rfl⟩, ⟨187, O27 w 187, fldOf (O27 w 187), tok1 (O27 w 187), by kernel_rfl, K.get default (by decide) (by decide) rfl (by kernel_rfl), by kernel_rfl, by kernel_rfl⟩, by kernel_rfl, by kernel_rfl, by kernel_rfl, by kernel_rfl, by kernel_rfl⟩
theorem bind_gf_mult_noLUT {w : World} {s : Shared} {h : Heap} (K : K27 w h) (hk : Keep h s.heap) (v0 v1 v2 v3 : Value) : BindsTo s (fdOf (O27 w 78)) ⟨[v0, v1, v2, v3], []⟩ [("x", v0), ("y", v1), ("prim", v2), ("field_charac_full", v3), ("carryless", (.bool true))] :=
  BindsTo.of_defaults (T := 71) (o := O27 w 71) (items := seqOf (O27 w 71)) (n := seqN (O27 w 71)) (by kernel_rfl) (hk _ _ (K.get default (by decide) (by decide) rfl (by kernel_rfl))) (by kernel_rfl) rfl (by kernel_rfl)
theorem bind_init_tables {w : World} {s : Shared} {h : Heap} (K : K27 w h) (hk : Keep h s.heap)  : BindsTo s (fdOf (O27 w 35)) ⟨[], []⟩ [("prim", (.int 285 211)), ("generator", (.int 2 212)), ("c_exp", (.int 8 213))] :=
  BindsTo.of_defaults (T := 28) (o := O27 w 28) (items := seqOf (O27 w 28)) (n := seqN (O27 w 28)) (by kernel_rfl) (hk _ _ (K.get default (by decide) (by decide) rfl (by kernel_rfl))) (by kernel_rfl) rfl (by kernel_rfl)
theorem bind_gf_sub {w : World} {s : Shared} {h : Heap} (K : K27 w h) (hk : Keep h s.heap) (v0 v1 : Value) : BindsTo s (fdOf (O27 w 42)) ⟨[v0, v1], []⟩ [("x", v0), ("y", v1)] :=
  BindsTo.of_eq (by kernel_rfl)
theorem bind_gf_inverse {w : World} {s : Shared} {h : Heap} (K : K27 w h) (hk : Keep h s.heap) (v0 : Value) : BindsTo s (fdOf (O27 w 49)) ⟨[v0], []⟩ [("x", v0)] :=
  BindsTo.of_eq (by kernel_rfl)
theorem bind_gf_mul {w : World} {s : Shared} {h : Heap} (K : K27 w h) (hk : Keep h s.heap) (v0 v1 : Value) : BindsTo s (fdOf (O27 w 56)) ⟨[v0, v1], []⟩ [("x", v0), ("y", v1)] :=
  BindsTo.of_eq (by kernel_rfl)
theorem bind_gf_div {w : World} {s : Shared} {h : Heap} (K : K27 w h) (hk : Keep h s.heap) (v0 v1 : Value) : BindsTo s (fdOf (O27 w 63)) ⟨[v0, v1], []⟩ [("x", v0), ("y", v1)] :=
  BindsTo.of_eq (by kernel_rfl)
theorem bind_gf_pow {w : World} {s : Shared} {h : Heap} (K : K27 w h) (hk : Keep h s.heap) (v0 v1 : Value) : BindsTo s (fdOf (O27 w 70)) ⟨[v0, v1], []⟩ [("x", v0), ("power", v1)] :=
  BindsTo.of_eq (by kernel_rfl)
theorem bind_gf_poly_scale {w : World} {s : Shared} {h : Heap} (K : K27 w h) (hk : Keep h s.heap) (v0 v1 : Value) : BindsTo s (fdOf (O27 w 83)) ⟨[v0, v1], []⟩ [("p", v0), ("x", v1)] :=
  BindsTo.of_eq (by kernel_rfl)
theorem bind_gf_poly_add {w : World} {s : Shared} {h : Heap} (K : K27 w h) (hk : Keep h s.heap) (v0 v1 : Value) : BindsTo s (fdOf (O27 w 90)) ⟨[v0, v1], []⟩ [("p", v0), ("q", v1)] :=
  BindsTo.of_eq (by kernel_rfl)
theorem bind_gf_poly_mul {w : World} {s : Shared} {h : Heap} (K : K27 w h) (hk : Keep h s.heap) (v0 v1 : Value) : BindsTo s (fdOf (O27 w 95)) ⟨[v0, v1], []⟩ [("p", v0), ("q", v1)] :=
  BindsTo.of_eq (by kernel_rfl)
theorem bind_gf_poly_div {w : World} {s : Shared} {h : Heap} (K : K27 w h) (hk : Keep h s.heap) (v0 v1 : Value) : BindsTo s (fdOf (O27 w 102)) ⟨[v0, v1], []⟩ [("dividend", v0), ("divisor", v1)] :=
  BindsTo.of_eq (by kernel_rfl)
theorem bind_gf_poly_eval {w : World} {s : Shared} {h : Heap} (K : K27 w h) (hk : Keep h s.heap) (v0 v1 : Value) : BindsTo s (fdOf (O27 w 109)) ⟨[v0, v1], []⟩ [("poly", v0), ("x", v1)] :=
  BindsTo.of_eq (by kernel_rfl)
theorem bind_rs_generator_poly {w : World} {s : Shared} {h : Heap} (K : K27 w h) (hk : Keep h s.heap) (v0 v1 v2 : Value) : BindsTo s (fdOf (O27 w 117)) ⟨[v0, v1, v2], []⟩ [("nsym", v0), ("fcr", v1), ("generator", v2)] :=
  BindsTo.of_defaults (T := 110) (o := O27 w 110) (items := seqOf (O27 w 110)) (n := seqN (O27 w 110)) (by kernel_rfl) (hk _ _ (K.get default (by decide) (by decide) rfl (by kernel_rfl))) (by kernel_rfl) rfl (by kernel_rfl)
theorem bind_rs_encode_msg {w : World} {s : Shared} {h : Heap} (K : K27 w h) (hk : Keep h s.heap) (v0 v1 : Value) : BindsTo s (fdOf (O27 w 123)) ⟨[v0, v1], []⟩ [("msg_in", v0), ("nsym", v1), ("fcr", (.int 0 339)), ("generator", (.int 2 340)), ("gen", .none)] :=
  BindsTo.of_defaults (T := 118) (o := O27 w 118) (items := seqOf (O27 w 118)) (n := seqN (O27 w 118)) (by kernel_rfl) (hk _ _ (K.get default (by decide) (by decide) rfl (by kernel_rfl))) (by kernel_rfl) rfl (by kernel_rfl)
theorem bind_rs_calc_syndromes {w : World} {s : Shared} {h : Heap} (K : K27 w h) (hk : Keep h s.heap) (v0 v1 v2 v3 : Value) : BindsTo s (fdOf (O27 w 129)) ⟨[v0, v1, v2, v3], []⟩ [("msg", v0), ("nsym", v1), ("fcr", v2), ("generator", v3)] :=
  BindsTo.of_defaults (T := 124) (o := O27 w 124) (items := seqOf (O27 w 124)) (n := seqN (O27 w 124)) (by kernel_rfl) (hk _ _ (K.get default (by decide) (by decide) rfl (by kernel_rfl))) (by kernel_rfl) rfl (by kernel_rfl)
theorem bind_rs_find_errata_locator {w : World} {s : Shared} {h : Heap} (K : K27 w h) (hk : Keep h s.heap) (v0 v1 : Value) : BindsTo s (fdOf (O27 w 151)) ⟨[v0, v1], []⟩ [("e_pos", v0), ("generator", v1)] :=
  BindsTo.of_defaults (T := 144) (o := O27 w 144) (items := seqOf (O27 w 144)) (n := seqN (O27 w 144)) (by kernel_rfl) (hk _ _ (K.get default (by decide) (by decide) rfl (by kernel_rfl))) (by kernel_rfl) rfl (by kernel_rfl)
theorem bind_rs_find_error_evaluator {w : World} {s : Shared} {h : Heap} (K : K27 w h) (hk : Keep h s.heap) (v0 v1 v2 : Value) : BindsTo s (fdOf (O27 w 158)) ⟨[v0, v1, v2], []⟩ [("synd", v0), ("err_loc", v1), ("nsym", v2)] :=
  BindsTo.of_eq (by kernel_rfl)
theorem bind_rs_correct_errata {w : World} {s : Shared} {h : Heap} (K : K27 w h) (hk : Keep h s.heap) (v0 v1 v2 v3 v4 : Value) : BindsTo s (fdOf (O27 w 135)) ⟨[v0, v1, v2, v3, v4], []⟩ [("msg_in", v0), ("synd", v1), ("err_pos", v2), ("fcr", v3), ("generator", v4)] :=
  BindsTo.of_defaults (T := 130) (o := O27 w 130) (items := seqOf (O27 w 130)) (n := seqN (O27 w 130)) (by kernel_rfl) (hk _ _ (K.get default (by decide) (by decide) rfl (by kernel_rfl))) (by kernel_rfl) rfl (by kernel_rfl)
theorem bind_rs_find_error_locator {w : World} {s : Shared} {h : Heap} (K : K27 w h) (hk : Keep h s.heap) (v0 v1 v2 : Value) : BindsTo s (fdOf (O27 w 143)) ⟨[v0, v1], [("erase_count", v2)]⟩ [("synd", v0), ("nsym", v1), ("erase_loc", .none), ("erase_count", v2)] :=
  BindsTo.of_defaults (T := 136) (o := O27 w 136) (items := seqOf (O27 w 136)) (n := seqN (O27 w 136)) (by kernel_rfl) (hk _ _ (K.get default (by decide) (by decide) rfl (by kernel_rfl))) (by kernel_rfl) rfl (by kernel_rfl)
theorem bind_rs_find_errors {w : World} {s : Shared} {h : Heap} (K : K27 w h) (hk : Keep h s.heap) (v0 v1 v2 : Value) : BindsTo s (fdOf (O27 w 166)) ⟨[v0, v1, v2], []⟩ [("err_loc", v0), ("nmess", v1), ("generator", v2)] :=
  BindsTo.of_defaults (T := 159) (o := O27 w 159) (items := seqOf (O27 w 159)) (n := seqN (O27 w 159)) (by kernel_rfl) (hk _ _ (K.get default (by decide) (by decide) rfl (by kernel_rfl))) (by kernel_rfl) rfl (by kernel_rfl)
theorem bind_rs_forney_syndromes {w : World} {s : Shared} {h : Heap} (K : K27 w h) (hk : Keep h s.heap) (v0 v1 v2 v3 : Value) : BindsTo s (fdOf (O27 w 172)) ⟨[v0, v1, v2, v3], []⟩ [("synd", v0), ("pos", v1), ("nmess", v2), ("generator", v3)] :=
  BindsTo.of_defaults (T := 167) (o := O27 w 167) (items := seqOf (O27 w 167)) (n := seqN (O27 w 167)) (by kernel_rfl) (hk _ _ (K.get default (by decide) (by decide) rfl (by kernel_rfl))) (by kernel_rfl) rfl (by kernel_rfl)
theorem bind_rs_correct_msg {w : World} {s : Shared} {h : Heap} (K : K27 w h) (hk : Keep h s.heap) (v0 v1 v2 : Value) : BindsTo s (fdOf (O27 w 180)) ⟨[v0, v1], [("erase_pos", v2)]⟩ [("msg_in", v0), ("nsym", v1), ("fcr", (.int 0 425)), ("generator", (.int 2 426)), ("erase_pos", v2), ("only_erasures", (.bool false))] :=
  BindsTo.of_defaults (T := 173) (o := O27 w 173) (items := seqOf (O27 w 173)) (n := seqN (O27 w 173)) (by kernel_rfl) (hk _ _ (K.get default (by decide) (by decide) rfl (by kernel_rfl))) (by kernel_rfl) rfl (by kernel_rfl)
theorem bind_rs_check {w : World} {s : Shared} {h : Heap} (K : K27 w h) (hk : Keep h s.heap) (v0 v1 : Value) : BindsTo s (fdOf (O27 w 188)) ⟨[v0, v1], []⟩ [("msg", v0), ("nsym", v1), ("fcr", (.int 0 445)), ("generator", (.int 2 446))] :=
  BindsTo.of_defaults (T := 181) (o := O27 w 181) (items := seqOf (O27 w 181)) (n := seqN (O27 w 181)) (by kernel_rfl) (hk _ _ (K.get default (by decide) (by decide) rfl (by kernel_rfl))) (by kernel_rfl) rfl (by kernel_rfl)
end Mine
end
section
open PySem PySem.W PyProof.Rows
namespace Mine
theorem bindG {W : Wld} {fd : FuncData} {C : CallForm} {tr : Spec} {full : List V → List V} {ns : List (Option Str)} (names : List Str) (rest : List (Option Str)) (hns : ns = names.map some ++ rest) (hnd : names.Nodup)
    (h : ∀ (s : Shared) φ us vs ws hp Q, Keep W.hb s.heap → Reps φ us (vs ++ ws) → ws.length = C.kws.length → tr us hp Q → ∃ vals, vals.length = names.length ∧ BindsTo s fd ⟨vs, C.kws.zip ws⟩ (names.zip vals) ∧ Reps φ (full us) vals) :
    ∀ (s : Shared) φ us vs ws hp Q, Keep W.hb s.heap → Reps φ us (vs ++ ws) → ws.length = C.kws.length → tr us hp Q → ∃ binds vals, BindsTo s fd ⟨vs, C.kws.zip ws⟩ binds ∧ (binds.map (·.1)).Nodup ∧ (∀ x ∈ binds, some x.1 ∈ ns) ∧
      Reps φ (full us) vals ∧ ∀ (i : Nat) x v, ns[i]? = some (some x) → vals[i]? = some v → (x, v) ∈ binds := by
  intro s φ us vs ws hp Q K R hw q
  obtain ⟨vals, hl, hb, hr⟩ := h s φ us vs ws hp Q K R hw q
  have e : (names.zip vals).map (·.1) = names := by rw [List.map_fst_zip]; omega
  refine ⟨_, vals, hb, by rw [e]; exact hnd, fun x hx => ?_, hr, fun i x v h1 h2 => ?_⟩
  · have : x.1 ∈ names := (List.of_mem_zip hx).1
    rw [hns]
    exact List.mem_append_left _ (List.mem_map.mpr ⟨_, this, rfl⟩)
  · have hi : i < vals.length := (List.getElem?_eq_some_iff.mp h2).1
    rw [hns, List.getElem?_append_left (by simp; omega), List.getElem?_map, Option.map_eq_some_iff] at h1
    obtain ⟨y, hy, e⟩ := h1
    cases e
    refine List.mem_of_getElem? (i := i) ?_
    rw [List.getElem?_zip_eq_some]
    exact ⟨hy, h2⟩
theorem bindP0 {W : Wld} {fd : FuncData} {C : CallForm} {tr : Spec} {full : List V → List V} {ns : List (Option Str)} (names : List Str) (rest : List (Option Str)) (hns : ns = names.map some ++ rest) (hnd : names.Nodup) (hk : C.kws = []) (hlen : ∀ us hp Q, tr us hp Q → us.length = 0)
    (h : ∀ (s : Shared) φ , Keep W.hb s.heap → ∃ vals, vals.length = names.length ∧ BindsTo s fd ⟨[], []⟩ (names.zip vals) ∧ Reps φ (full []) vals) :
    ∀ (s : Shared) φ us vs ws hp Q, Keep W.hb s.heap → Reps φ us (vs ++ ws) → ws.length = C.kws.length → tr us hp Q → ∃ binds vals, BindsTo s fd ⟨vs, C.kws.zip ws⟩ binds ∧ (binds.map (·.1)).Nodup ∧ (∀ x ∈ binds, some x.1 ∈ ns) ∧
      Reps φ (full us) vals ∧ ∀ (i : Nat) x v, ns[i]? = some (some x) → vals[i]? = some v → (x, v) ∈ binds := by
  refine bindG names rest hns hnd fun s φ us vs ws hp Q K R hw q => ?_
  replace q := hlen _ _ _ q
  rw [hk] at hw ⊢
  have hl := R.length
  obtain rfl := List.length_eq_zero_iff.mp hw
  rw [List.append_nil] at R hl
  rw [q] at hl
  obtain rfl := List.length_eq_zero_iff.mp q
  obtain rfl := List.length_eq_zero_iff.mp hl.symm
  exact h s φ K
theorem bindP1 {W : Wld} {fd : FuncData} {C : CallForm} {tr : Spec} {full : List V → List V} {ns : List (Option Str)} (names : List Str) (rest : List (Option Str)) (hns : ns = names.map some ++ rest) (hnd : names.Nodup) (hk : C.kws = []) (hlen : ∀ us hp Q, tr us hp Q → us.length = 1)
    (h : ∀ (s : Shared) φ u0 v0, Keep W.hb s.heap → Rep φ u0 v0 → ∃ vals, vals.length = names.length ∧ BindsTo s fd ⟨[v0], []⟩ (names.zip vals) ∧ Reps φ (full [u0]) vals) :
    ∀ (s : Shared) φ us vs ws hp Q, Keep W.hb s.heap → Reps φ us (vs ++ ws) → ws.length = C.kws.length → tr us hp Q → ∃ binds vals, BindsTo s fd ⟨vs, C.kws.zip ws⟩ binds ∧ (binds.map (·.1)).Nodup ∧ (∀ x ∈ binds, some x.1 ∈ ns) ∧
      Reps φ (full us) vals ∧ ∀ (i : Nat) x v, ns[i]? = some (some x) → vals[i]? = some v → (x, v) ∈ binds := by
  refine bindG names rest hns hnd fun s φ us vs ws hp Q K R hw q => ?_
  replace q := hlen _ _ _ q
  rw [hk] at hw ⊢
  have hl := R.length
  obtain rfl := List.length_eq_zero_iff.mp hw
  rw [List.append_nil] at R hl
  rw [q] at hl
  replace hl := hl.symm
  obtain ⟨u0, us, rfl, q1⟩ := len_s q
  obtain ⟨v0, vs, rfl, hl1⟩ := len_s hl
  obtain rfl := List.length_eq_zero_iff.mp q1
  obtain rfl := List.length_eq_zero_iff.mp hl1
  obtain ⟨r0, -⟩ := R
  exact h s φ u0 v0 K r0
theorem bindP2 {W : Wld} {fd : FuncData} {C : CallForm} {tr : Spec} {full : List V → List V} {ns : List (Option Str)} (names : List Str) (rest : List (Option Str)) (hns : ns = names.map some ++ rest) (hnd : names.Nodup) (hk : C.kws = []) (hlen : ∀ us hp Q, tr us hp Q → us.length = 2)
    (h : ∀ (s : Shared) φ u0 u1 v0 v1, Keep W.hb s.heap → Rep φ u0 v0 → Rep φ u1 v1 → ∃ vals, vals.length = names.length ∧ BindsTo s fd ⟨[v0, v1], []⟩ (names.zip vals) ∧ Reps φ (full [u0, u1]) vals) :
    ∀ (s : Shared) φ us vs ws hp Q, Keep W.hb s.heap → Reps φ us (vs ++ ws) → ws.length = C.kws.length → tr us hp Q → ∃ binds vals, BindsTo s fd ⟨vs, C.kws.zip ws⟩ binds ∧ (binds.map (·.1)).Nodup ∧ (∀ x ∈ binds, some x.1 ∈ ns) ∧
      Reps φ (full us) vals ∧ ∀ (i : Nat) x v, ns[i]? = some (some x) → vals[i]? = some v → (x, v) ∈ binds := by
  refine bindG names rest hns hnd fun s φ us vs ws hp Q K R hw q => ?_
  replace q := hlen _ _ _ q
  rw [hk] at hw ⊢
  have hl := R.length
  obtain rfl := List.length_eq_zero_iff.mp hw
  rw [List.append_nil] at R hl
  rw [q] at hl
  replace hl := hl.symm
  obtain ⟨u0, us, rfl, q1⟩ := len_s q
  obtain ⟨v0, vs, rfl, hl1⟩ := len_s hl
  obtain ⟨u1, us, rfl, q2⟩ := len_s q1
  obtain ⟨v1, vs, rfl, hl2⟩ := len_s hl1
  obtain rfl := List.length_eq_zero_iff.mp q2
  obtain rfl := List.length_eq_zero_iff.mp hl2
  obtain ⟨r0, r1, -⟩ := R
  exact h s φ u0 u1 v0 v1 K r0 r1
theorem bindP3 {W : Wld} {fd : FuncData} {C : CallForm} {tr : Spec} {full : List V → List V} {ns : List (Option Str)} (names : List Str) (rest : List (Option Str)) (hns : ns = names.map some ++ rest) (hnd : names.Nodup) (hk : C.kws = []) (hlen : ∀ us hp Q, tr us hp Q → us.length = 3)
    (h : ∀ (s : Shared) φ u0 u1 u2 v0 v1 v2, Keep W.hb s.heap → Rep φ u0 v0 → Rep φ u1 v1 → Rep φ u2 v2 → ∃ vals, vals.length = names.length ∧ BindsTo s fd ⟨[v0, v1, v2], []⟩ (names.zip vals) ∧ Reps φ (full [u0, u1, u2]) vals) :
    ∀ (s : Shared) φ us vs ws hp Q, Keep W.hb s.heap → Reps φ us (vs ++ ws) → ws.length = C.kws.length → tr us hp Q → ∃ binds vals, BindsTo s fd ⟨vs, C.kws.zip ws⟩ binds ∧ (binds.map (·.1)).Nodup ∧ (∀ x ∈ binds, some x.1 ∈ ns) ∧
      Reps φ (full us) vals ∧ ∀ (i : Nat) x v, ns[i]? = some (some x) → vals[i]? = some v → (x, v) ∈ binds := by
  refine bindG names rest hns hnd fun s φ us vs ws hp Q K R hw q => ?_
  replace q := hlen _ _ _ q
  rw [hk] at hw ⊢
  have hl := R.length
  obtain rfl := List.length_eq_zero_iff.mp hw
  rw [List.append_nil] at R hl
  rw [q] at hl
  replace hl := hl.symm
  obtain ⟨u0, us, rfl, q1⟩ := len_s q
  obtain ⟨v0, vs, rfl, hl1⟩ := len_s hl
  obtain ⟨u1, us, rfl, q2⟩ := len_s q1
  obtain ⟨v1, vs, rfl, hl2⟩ := len_s hl1
  obtain ⟨u2, us, rfl, q3⟩ := len_s q2
  obtain ⟨v2, vs, rfl, hl3⟩ := len_s hl2
  obtain rfl := List.length_eq_zero_iff.mp q3
  obtain rfl := List.length_eq_zero_iff.mp hl3
  obtain ⟨r0, r1, r2, -⟩ := R
  exact h s φ u0 u1 u2 v0 v1 v2 K r0 r1 r2
theorem bindP4 {W : Wld} {fd : FuncData} {C : CallForm} {tr : Spec} {full : List V → List V} {ns : List (Option Str)} (names : List Str) (rest : List (Option Str)) (hns : ns = names.map some ++ rest) (hnd : names.Nodup) (hk : C.kws = []) (hlen : ∀ us hp Q, tr us hp Q → us.length = 4)
    (h : ∀ (s : Shared) φ u0 u1 u2 u3 v0 v1 v2 v3, Keep W.hb s.heap → Rep φ u0 v0 → Rep φ u1 v1 → Rep φ u2 v2 → Rep φ u3 v3 → ∃ vals, vals.length = names.length ∧ BindsTo s fd ⟨[v0, v1, v2, v3], []⟩ (names.zip vals) ∧ Reps φ (full [u0, u1, u2, u3]) vals) :
    ∀ (s : Shared) φ us vs ws hp Q, Keep W.hb s.heap → Reps φ us (vs ++ ws) → ws.length = C.kws.length → tr us hp Q → ∃ binds vals, BindsTo s fd ⟨vs, C.kws.zip ws⟩ binds ∧ (binds.map (·.1)).Nodup ∧ (∀ x ∈ binds, some x.1 ∈ ns) ∧
      Reps φ (full us) vals ∧ ∀ (i : Nat) x v, ns[i]? = some (some x) → vals[i]? = some v → (x, v) ∈ binds := by
  refine bindG names rest hns hnd fun s φ us vs ws hp Q K R hw q => ?_
  replace q := hlen _ _ _ q
  rw [hk] at hw ⊢
  have hl := R.length
  obtain rfl := List.length_eq_zero_iff.mp hw
  rw [List.append_nil] at R hl
  rw [q] at hl
  replace hl := hl.symm
  obtain ⟨u0, us, rfl, q1⟩ := len_s q
  obtain ⟨v0, vs, rfl, hl1⟩ := len_s hl
  obtain ⟨u1, us, rfl, q2⟩ := len_s q1
  obtain ⟨v1, vs, rfl, hl2⟩ := len_s hl1
  obtain ⟨u2, us, rfl, q3⟩ := len_s q2
  obtain ⟨v2, vs, rfl, hl3⟩ := len_s hl2
  obtain ⟨u3, us, rfl, q4⟩ := len_s q3
  obtain ⟨v3, vs, rfl, hl4⟩ := len_s hl3
  obtain rfl := List.length_eq_zero_iff.mp q4
  obtain rfl := List.length_eq_zero_iff.mp hl4
  obtain ⟨r0, r1, r2, r3, -⟩ := R
  exact h s φ u0 u1 u2 u3 v0 v1 v2 v3 K r0 r1 r2 r3
theorem bindP5 {W : Wld} {fd : FuncData} {C : CallForm} {tr : Spec} {full : List V → List V} {ns : List (Option Str)} (names : List Str) (rest : List (Option Str)) (hns : ns = names.map some ++ rest) (hnd : names.Nodup) (hk : C.kws = []) (hlen : ∀ us hp Q, tr us hp Q → us.length = 5)
    (h : ∀ (s : Shared) φ u0 u1 u2 u3 u4 v0 v1 v2 v3 v4, Keep W.hb s.heap → Rep φ u0 v0 → Rep φ u1 v1 → Rep φ u2 v2 → Rep φ u3 v3 → Rep φ u4 v4 → ∃ vals, vals.length = names.length ∧ BindsTo s fd ⟨[v0, v1, v2, v3, v4], []⟩ (names.zip vals) ∧ Reps φ (full [u0, u1, u2, u3, u4]) vals) :
    ∀ (s : Shared) φ us vs ws hp Q, Keep W.hb s.heap → Reps φ us (vs ++ ws) → ws.length = C.kws.length → tr us hp Q → ∃ binds vals, BindsTo s fd ⟨vs, C.kws.zip ws⟩ binds ∧ (binds.map (·.1)).Nodup ∧ (∀ x ∈ binds, some x.1 ∈ ns) ∧
      Reps φ (full us) vals ∧ ∀ (i : Nat) x v, ns[i]? = some (some x) → vals[i]? = some v → (x, v) ∈ binds := by
  refine bindG names rest hns hnd fun s φ us vs ws hp Q K R hw q => ?_
  replace q := hlen _ _ _ q
  rw [hk] at hw ⊢
  have hl := R.length
  obtain rfl := List.length_eq_zero_iff.mp hw
  rw [List.append_nil] at R hl
  rw [q] at hl
  replace hl := hl.symm
  obtain ⟨u0, us, rfl, q1⟩ := len_s q
  obtain ⟨v0, vs, rfl, hl1⟩ := len_s hl
  obtain ⟨u1, us, rfl, q2⟩ := len_s q1
  obtain ⟨v1, vs, rfl, hl2⟩ := len_s hl1
  obtain ⟨u2, us, rfl, q3⟩ := len_s q2
  obtain ⟨v2, vs, rfl, hl3⟩ := len_s hl2
  obtain ⟨u3, us, rfl, q4⟩ := len_s q3
  obtain ⟨v3, vs, rfl, hl4⟩ := len_s hl3
  obtain ⟨u4, us, rfl, q5⟩ := len_s q4
  obtain ⟨v4, vs, rfl, hl5⟩ := len_s hl4
  obtain rfl := List.length_eq_zero_iff.mp q5
  obtain rfl := List.length_eq_zero_iff.mp hl5
  obtain ⟨r0, r1, r2, r3, r4, -⟩ := R
  exact h s φ u0 u1 u2 u3 u4 v0 v1 v2 v3 v4 K r0 r1 r2 r3 r4
theorem bindK3 {W : Wld} {fd : FuncData} {C : CallForm} {tr : Spec} {full : List V → List V} {ns : List (Option Str)} (names : List Str) (rest : List (Option Str)) (hns : ns = names.map some ++ rest) (hnd : names.Nodup) {kw : Str} (hk : C.kws = [kw]) (hlen : ∀ us hp Q, tr us hp Q → us.length = 3)
    (h : ∀ (s : Shared) φ u0 u1 u2 v0 v1 v2, Keep W.hb s.heap → Rep φ u0 v0 → Rep φ u1 v1 → Rep φ u2 v2 → ∃ vals, vals.length = names.length ∧ BindsTo s fd ⟨[v0, v1], [(kw, v2)]⟩ (names.zip vals) ∧ Reps φ (full [u0, u1, u2]) vals) :
    ∀ (s : Shared) φ us vs ws hp Q, Keep W.hb s.heap → Reps φ us (vs ++ ws) → ws.length = C.kws.length → tr us hp Q → ∃ binds vals, BindsTo s fd ⟨vs, C.kws.zip ws⟩ binds ∧ (binds.map (·.1)).Nodup ∧ (∀ x ∈ binds, some x.1 ∈ ns) ∧
      Reps φ (full us) vals ∧ ∀ (i : Nat) x v, ns[i]? = some (some x) → vals[i]? = some v → (x, v) ∈ binds := by
  refine bindG names rest hns hnd fun s φ us vs ws hp Q K R hw q => ?_
  replace q := hlen _ _ _ q
  rw [hk] at hw ⊢
  have hl := R.length
  obtain ⟨v2, ws, rfl, hw1⟩ := len_s hw
  obtain rfl := List.length_eq_zero_iff.mp hw1
  rw [q, List.length_append] at hl
  replace hl : vs.length = 2 := (Nat.succ.inj hl).symm
  obtain ⟨u0, us, rfl, q1⟩ := len_s q
  obtain ⟨v0, vs, rfl, hl1⟩ := len_s hl
  obtain ⟨u1, us, rfl, q2⟩ := len_s q1
  obtain ⟨v1, vs, rfl, hl2⟩ := len_s hl1
  obtain ⟨u2, us, rfl, q3⟩ := len_s q2
  obtain rfl := List.length_eq_zero_iff.mp q3
  obtain rfl := List.length_eq_zero_iff.mp hl2
  obtain ⟨r0, r1, r2, -⟩ := R
  exact h s φ u0 u1 u2 v0 v1 v2 K r0 r1 r2
theorem noS.len {us hp Q} (h : noS us hp Q) : us.length = 4 := by obtain ⟨⟩ := h; exact congrArg List.length ‹us = _›
theorem initS.len {us hp Q} (h : initS us hp Q) : us.length = 0 := by obtain ⟨⟩ := h; exact congrArg List.length ‹us = _›
theorem subS.len {us hp Q} (h : subS us hp Q) : us.length = 2 := by obtain ⟨⟩ := h; exact congrArg List.length ‹us = _›
theorem invS.len {us hp Q} (h : invS us hp Q) : us.length = 1 := by obtain ⟨⟩ := h; exact congrArg List.length ‹us = _›
theorem mulS.len {us hp Q} (h : mulS us hp Q) : us.length = 2 := by obtain ⟨⟩ := h; exact congrArg List.length ‹us = _›
theorem divS.len {us hp Q} (h : divS us hp Q) : us.length = 2 := by obtain ⟨⟩ := h; exact congrArg List.length ‹us = _›
theorem powS.len {us hp Q} (h : powS us hp Q) : us.length = 2 := by obtain ⟨⟩ := h; exact congrArg List.length ‹us = _›
theorem scaleS.len {us hp Q} (h : scaleS us hp Q) : us.length = 2 := by obtain ⟨⟩ := h; exact congrArg List.length ‹us = _›
theorem addS.len {us hp Q} (h : addS us hp Q) : us.length = 2 := by obtain ⟨⟩ := h; exact congrArg List.length ‹us = _›
theorem polyMulS.len {us hp Q} (h : polyMulS us hp Q) : us.length = 2 := by obtain ⟨⟩ := h; exact congrArg List.length ‹us = _›
theorem polyDivS.len {us hp Q} (h : polyDivS us hp Q) : us.length = 2 := by obtain ⟨⟩ := h; exact congrArg List.length ‹us = _›
theorem evalS.len {us hp Q} (h : evalS us hp Q) : us.length = 2 := by obtain ⟨⟩ := h; exact congrArg List.length ‹us = _›
theorem genS.len {us hp Q} (h : genS us hp Q) : us.length = 3 := by obtain ⟨⟩ := h; exact congrArg List.length ‹us = _›
theorem encS.len {us hp Q} (h : encS us hp Q) : us.length = 2 := by obtain ⟨⟩ := h; exact congrArg List.length ‹us = _›
theorem synS.len {us hp Q} (h : synS us hp Q) : us.length = 4 := by obtain ⟨⟩ := h; exact congrArg List.length ‹us = _›
theorem locS.len {us hp Q} (h : locS us hp Q) : us.length = 2 := by obtain ⟨⟩ := h; exact congrArg List.length ‹us = _›
theorem evrS.len {us hp Q} (h : evrS us hp Q) : us.length = 3 := by obtain ⟨⟩ := h; exact congrArg List.length ‹us = _›
theorem errS.len {us hp Q} (h : errS us hp Q) : us.length = 5 := by obtain ⟨⟩ := h; exact congrArg List.length ‹us = _›
theorem bmS.len {us hp Q} (h : bmS us hp Q) : us.length = 3 := by obtain ⟨⟩ := h; exact congrArg List.length ‹us = _›
theorem findS.len {us hp Q} (h : findS us hp Q) : us.length = 3 := by obtain ⟨⟩ := h; exact congrArg List.length ‹us = _›
theorem fornS.len {us hp Q} (h : fornS us hp Q) : us.length = 4 := by obtain ⟨⟩ := h; exact congrArg List.length ‹us = _›
theorem corS.len {us hp Q} (h : corS us hp Q) : us.length = 3 := by obtain ⟨⟩ := h; exact congrArg List.length ‹us = _›
theorem checkS.len {us hp Q} (h : checkS us hp Q) : us.length = 2 := by obtain ⟨⟩ := h; exact congrArg List.length ‹us = _›
noncomputable def addrs : List (Str × Nat) := [("gf_mult_noLUT", 78), ("init_tables", 35), ("gf_sub", 42), ("gf_inverse", 49), ("gf_mul", 56), ("gf_div", 63), ("gf_pow", 70), ("gf_poly_scale", 83), ("gf_poly_add", 90), ("gf_poly_mul", 95), ("gf_poly_div", 102), ("gf_poly_eval", 109), ("rs_generator_poly", 117), ("rs_encode_msg", 123), ("rs_calc_syndromes", 129), ("rs_find_errata_locator", 151), ("rs_find_error_evaluator", 158), ("rs_correct_errata", 135), ("rs_find_error_locator", 143), ("rs_find_errors", 166), ("rs_forney_syndromes", 172), ("rs_correct_msg", 180), ("rs_check", 188)]
structure Wo (W : Wld) : Prop where
  ok : W.Ok
  k27 : K27 W.w W.hb
  cf : W.G.map (·.1) = forms
  gn : W.gn = gnames
  pc : W.pc = pcs
  mg : ∀ (x : Str) a, (x, a) ∈ addrs → W.mg x = some (.ref a)
theorem ok_gf_mult_noLUT {W : Wld} (X : Wo W)   : FnOK W (!pcs.getD 0 false) (W.n + 1) ⟨"gf_mult_noLUT", []⟩ noS := by
  refine fn_okV X.ok (T := tx "gf_mult_noLUT" ns_gf_mult_noLUT) (full := fun us => us ++ [.bool true]) (X.mg "gf_mult_noLUT" 78 (by decide +kernel)) (def_gf_mult_noLUT X.k27) X.cf.symm X.gn.symm (by decide +kernel) is_gf_mult_noLUT (by rw [X.pc]; decide +kernel) ?_ ?_
  · refine bindP4 ["x", "y", "prim", "field_charac_full", "carryless"] _ rfl (by decide +kernel) rfl (fun _ _ _ h => noS.len h) fun s φ u0 u1 u2 u3 v0 v1 v2 v3 K r0 r1 r2 r3 => ?_
    exact ⟨[v0, v1, v2, v3, (.bool true)], rfl, bind_gf_mult_noLUT X.k27 K v0 v1 v2 v3, ⟨r0, r1, r2, r3, rfl, trivial⟩⟩
  · intro us hp Q h
    exact tr_no h
theorem ok_init_tables {W : Wld} (X : Wo W)  {C0 : CallForm} (h0 : W.G[0]? = some (C0, noS)) : FnOK W (!pcs.getD 1 false) (W.n + 1) ⟨"init_tables", []⟩ initS := by
  refine fn_okV X.ok (T := tx "init_tables" ns_init_tables) (full := fun _ => [.int 285, .int 2, .int 8]) (X.mg "init_tables" 35 (by decide +kernel)) (def_init_tables X.k27) X.cf.symm X.gn.symm (by decide +kernel) is_init_tables (by rw [X.pc]; decide +kernel) ?_ ?_
  · refine bindP0 ["prim", "generator", "c_exp"] _ rfl (by decide +kernel) rfl (fun _ _ _ h => initS.len h) fun s φ   K  => ?_
    exact ⟨[(.int 285 211), (.int 2 212), (.int 8 213)], rfl, bind_init_tables X.k27 K, ⟨⟨_, rfl⟩, ⟨_, rfl⟩, ⟨_, rfl⟩, trivial⟩⟩
  · intro us hp Q h
    exact tr_init h0 h
theorem ok_gf_sub {W : Wld} (X : Wo W) (hgs : W.gs = GS)  : FnOK W (!pcs.getD 2 false) (W.n + 1) ⟨"gf_sub", []⟩ subS := by
  refine fn_okV X.ok (T := tx "gf_sub" ns_gf_sub) (full := fun us => us) (X.mg "gf_sub" 42 (by decide +kernel)) (def_gf_sub X.k27) X.cf.symm X.gn.symm (by decide +kernel) is_gf_sub (by rw [X.pc]; decide +kernel) ?_ ?_
  · refine bindP2 ["x", "y"] _ rfl (by decide +kernel) rfl (fun _ _ _ h => subS.len h) fun s φ u0 u1 v0 v1 K r0 r1 => ?_
    exact ⟨[v0, v1], rfl, bind_gf_sub X.k27 K v0 v1, ⟨r0, r1, trivial⟩⟩
  · intro us hp Q h
    rw [hgs]
    exact tr_sub h
theorem ok_gf_inverse {W : Wld} (X : Wo W) (hgs : W.gs = GS)  : FnOK W (!pcs.getD 3 false) (W.n + 1) ⟨"gf_inverse", []⟩ invS := by
  refine fn_okV X.ok (T := tx "gf_inverse" ns_gf_inverse) (full := fun us => us) (X.mg "gf_inverse" 49 (by decide +kernel)) (def_gf_inverse X.k27) X.cf.symm X.gn.symm (by decide +kernel) is_gf_inverse (by rw [X.pc]; decide +kernel) ?_ ?_
  · refine bindP1 ["x"] _ rfl (by decide +kernel) rfl (fun _ _ _ h => invS.len h) fun s φ u0 v0 K r0 => ?_
    exact ⟨[v0], rfl, bind_gf_inverse X.k27 K v0, ⟨r0, trivial⟩⟩
  · intro us hp Q h
    rw [hgs]
    exact tr_inv h
theorem ok_gf_mul {W : Wld} (X : Wo W) (hgs : W.gs = GS)  : FnOK W (!pcs.getD 4 false) (W.n + 1) ⟨"gf_mul", []⟩ mulS := by
  refine fn_okV X.ok (T := tx "gf_mul" ns_gf_mul) (full := fun us => us) (X.mg "gf_mul" 56 (by decide +kernel)) (def_gf_mul X.k27) X.cf.symm X.gn.symm (by decide +kernel) is_gf_mul (by rw [X.pc]; decide +kernel) ?_ ?_
  · refine bindP2 ["x", "y"] _ rfl (by decide +kernel) rfl (fun _ _ _ h => mulS.len h) fun s φ u0 u1 v0 v1 K r0 r1 => ?_
    exact ⟨[v0, v1], rfl, bind_gf_mul X.k27 K v0 v1, ⟨r0, r1, trivial⟩⟩
  · intro us hp Q h
    rw [hgs]
    exact tr_mul h
theorem ok_gf_div {W : Wld} (X : Wo W) (hgs : W.gs = GS)  : FnOK W (!pcs.getD 5 false) (W.n + 1) ⟨"gf_div", []⟩ divS := by
  refine fn_okV X.ok (T := tx "gf_div" ns_gf_div) (full := fun us => us) (X.mg "gf_div" 63 (by decide +kernel)) (def_gf_div X.k27) X.cf.symm X.gn.symm (by decide +kernel) is_gf_div (by rw [X.pc]; decide +kernel) ?_ ?_
  · refine bindP2 ["x", "y"] _ rfl (by decide +kernel) rfl (fun _ _ _ h => divS.len h) fun s φ u0 u1 v0 v1 K r0 r1 => ?_
    exact ⟨[v0, v1], rfl, bind_gf_div X.k27 K v0 v1, ⟨r0, r1, trivial⟩⟩
  · intro us hp Q h
    rw [hgs]
    exact tr_div h
theorem ok_gf_pow {W : Wld} (X : Wo W) (hgs : W.gs = GS)  : FnOK W (!pcs.getD 6 false) (W.n + 1) ⟨"gf_pow", []⟩ powS := by
  refine fn_okV X.ok (T := tx "gf_pow" ns_gf_pow) (full := fun us => us) (X.mg "gf_pow" 70 (by decide +kernel)) (def_gf_pow X.k27) X.cf.symm X.gn.symm (by decide +kernel) is_gf_pow (by rw [X.pc]; decide +kernel) ?_ ?_
  · refine bindP2 ["x", "power"] _ rfl (by decide +kernel) rfl (fun _ _ _ h => powS.len h) fun s φ u0 u1 v0 v1 K r0 r1 => ?_
    exact ⟨[v0, v1], rfl, bind_gf_pow X.k27 K v0 v1, ⟨r0, r1, trivial⟩⟩
  · intro us hp Q h
    rw [hgs]
    exact tr_pow h
theorem ok_gf_poly_scale {W : Wld} (X : Wo W) (hgs : W.gs = GS) {C4 : CallForm} (h4 : W.G[4]? = some (C4, mulS)) : FnOK W (!pcs.getD 7 false) (W.n + 1) ⟨"gf_poly_scale", []⟩ scaleS := by
  refine fn_okV X.ok (T := tx "gf_poly_scale" ns_gf_poly_scale) (full := fun us => us) (X.mg "gf_poly_scale" 83 (by decide +kernel)) (def_gf_poly_scale X.k27) X.cf.symm X.gn.symm (by decide +kernel) is_gf_poly_scale (by rw [X.pc]; decide +kernel) ?_ ?_
  · refine bindP2 ["p", "x"] _ rfl (by decide +kernel) rfl (fun _ _ _ h => scaleS.len h) fun s φ u0 u1 v0 v1 K r0 r1 => ?_
    exact ⟨[v0, v1], rfl, bind_gf_poly_scale X.k27 K v0 v1, ⟨r0, r1, trivial⟩⟩
  · intro us hp Q h
    rw [hgs]
    exact tr_scale h4 h
theorem ok_gf_poly_add {W : Wld} (X : Wo W)   : FnOK W (!pcs.getD 8 false) (W.n + 1) ⟨"gf_poly_add", []⟩ addS := by
  refine fn_okV X.ok (T := tx "gf_poly_add" ns_gf_poly_add) (full := fun us => us) (X.mg "gf_poly_add" 90 (by decide +kernel)) (def_gf_poly_add X.k27) X.cf.symm X.gn.symm (by decide +kernel) is_gf_poly_add (by rw [X.pc]; decide +kernel) ?_ ?_
  · refine bindP2 ["p", "q"] _ rfl (by decide +kernel) rfl (fun _ _ _ h => addS.len h) fun s φ u0 u1 v0 v1 K r0 r1 => ?_
    exact ⟨[v0, v1], rfl, bind_gf_poly_add X.k27 K v0 v1, ⟨r0, r1, trivial⟩⟩
  · intro us hp Q h
    exact tr_add h
theorem ok_gf_poly_mul {W : Wld} (X : Wo W) (hgs : W.gs = GS)  : FnOK W (!pcs.getD 9 false) (W.n + 1) ⟨"gf_poly_mul", []⟩ polyMulS := by
  refine fn_okV X.ok (T := tx "gf_poly_mul" ns_gf_poly_mul) (full := fun us => us) (X.mg "gf_poly_mul" 95 (by decide +kernel)) (def_gf_poly_mul X.k27) X.cf.symm X.gn.symm (by decide +kernel) is_gf_poly_mul (by rw [X.pc]; decide +kernel) ?_ ?_
  · refine bindP2 ["p", "q"] _ rfl (by decide +kernel) rfl (fun _ _ _ h => polyMulS.len h) fun s φ u0 u1 v0 v1 K r0 r1 => ?_
    exact ⟨[v0, v1], rfl, bind_gf_poly_mul X.k27 K v0 v1, ⟨r0, r1, trivial⟩⟩
  · intro us hp Q h
    rw [hgs]
    exact tr_polyMul h
theorem ok_gf_poly_div {W : Wld} (X : Wo W) (hgs : W.gs = GS)  : FnOK W (!pcs.getD 10 false) (W.n + 1) ⟨"gf_poly_div", []⟩ polyDivS := by
  refine fn_okV X.ok (T := tx "gf_poly_div" ns_gf_poly_div) (full := fun us => us) (X.mg "gf_poly_div" 102 (by decide +kernel)) (def_gf_poly_div X.k27) X.cf.symm X.gn.symm (by decide +kernel) is_gf_poly_div (by rw [X.pc]; decide +kernel) ?_ ?_
  · refine bindP2 ["dividend", "divisor"] _ rfl (by decide +kernel) rfl (fun _ _ _ h => polyDivS.len h) fun s φ u0 u1 v0 v1 K r0 r1 => ?_
    exact ⟨[v0, v1], rfl, bind_gf_poly_div X.k27 K v0 v1, ⟨r0, r1, trivial⟩⟩
  · intro us hp Q h
    rw [hgs]
    exact tr_polyDiv h
theorem ok_gf_poly_eval {W : Wld} (X : Wo W) (hgs : W.gs = GS) {C4 : CallForm} (h4 : W.G[4]? = some (C4, mulS)) : FnOK W (!pcs.getD 11 false) (W.n + 1) ⟨"gf_poly_eval", []⟩ evalS := by
  refine fn_okV X.ok (T := tx "gf_poly_eval" ns_gf_poly_eval) (full := fun us => us) (X.mg "gf_poly_eval" 109 (by decide +kernel)) (def_gf_poly_eval X.k27) X.cf.symm X.gn.symm (by decide +kernel) is_gf_poly_eval (by rw [X.pc]; decide +kernel) ?_ ?_
  · refine bindP2 ["poly", "x"] _ rfl (by decide +kernel) rfl (fun _ _ _ h => evalS.len h) fun s φ u0 u1 v0 v1 K r0 r1 => ?_
    exact ⟨[v0, v1], rfl, bind_gf_poly_eval X.k27 K v0 v1, ⟨r0, r1, trivial⟩⟩
  · intro us hp Q h
    rw [hgs]
    exact tr_eval h4 h
theorem ok_rs_generator_poly {W : Wld} (X : Wo W) (hgs : W.gs = GS) {C6 : CallForm} (h6 : W.G[6]? = some (C6, powS)) {C9 : CallForm} (h9 : W.G[9]? = some (C9, polyMulS)) : FnOK W (!pcs.getD 12 false) (W.n + 1) ⟨"rs_generator_poly", []⟩ genS := by
  refine fn_okV X.ok (T := tx "rs_generator_poly" ns_rs_generator_poly) (full := fun us => us) (X.mg "rs_generator_poly" 117 (by decide +kernel)) (def_rs_generator_poly X.k27) X.cf.symm X.gn.symm (by decide +kernel) is_rs_generator_poly (by rw [X.pc]; decide +kernel) ?_ ?_
  · refine bindP3 ["nsym", "fcr", "generator"] _ rfl (by decide +kernel) rfl (fun _ _ _ h => genS.len h) fun s φ u0 u1 u2 v0 v1 v2 K r0 r1 r2 => ?_
    exact ⟨[v0, v1, v2], rfl, bind_rs_generator_poly X.k27 K v0 v1 v2, ⟨r0, r1, r2, trivial⟩⟩
  · intro us hp Q h
    rw [hgs]
    exact tr_gen h6 h9 h
theorem ok_rs_encode_msg {W : Wld} (X : Wo W) (hgs : W.gs = GS) {C12 : CallForm} (h12 : W.G[12]? = some (C12, genS)) : FnOK W (!pcs.getD 13 false) (W.n + 1) ⟨"rs_encode_msg", []⟩ encS := by
  refine fn_okV X.ok (T := tx "rs_encode_msg" ns_rs_encode_msg) (full := fun us => us ++ [V.int 0, .int 2, .none]) (X.mg "rs_encode_msg" 123 (by decide +kernel)) (def_rs_encode_msg X.k27) X.cf.symm X.gn.symm (by decide +kernel) is_rs_encode_msg (by rw [X.pc]; decide +kernel) ?_ ?_
  · refine bindP2 ["msg_in", "nsym", "fcr", "generator", "gen"] _ rfl (by decide +kernel) rfl (fun _ _ _ h => encS.len h) fun s φ u0 u1 v0 v1 K r0 r1 => ?_
    exact ⟨[v0, v1, (.int 0 339), (.int 2 340), .none], rfl, bind_rs_encode_msg X.k27 K v0 v1, ⟨r0, r1, ⟨_, rfl⟩, ⟨_, rfl⟩, rfl, trivial⟩⟩
  · intro us hp Q h
    rw [hgs]
    exact tr_enc h12 h
theorem ok_rs_calc_syndromes {W : Wld} (X : Wo W) (hgs : W.gs = GS) {C6 : CallForm} (h6 : W.G[6]? = some (C6, powS)) {C11 : CallForm} (h11 : W.G[11]? = some (C11, evalS)) : FnOK W (!pcs.getD 14 false) (W.n + 1) ⟨"rs_calc_syndromes", []⟩ synS := by
  refine fn_okV X.ok (T := tx "rs_calc_syndromes" ns_rs_calc_syndromes) (full := fun us => us) (X.mg "rs_calc_syndromes" 129 (by decide +kernel)) (def_rs_calc_syndromes X.k27) X.cf.symm X.gn.symm (by decide +kernel) is_rs_calc_syndromes (by rw [X.pc]; decide +kernel) ?_ ?_
  · refine bindP4 ["msg", "nsym", "fcr", "generator"] _ rfl (by decide +kernel) rfl (fun _ _ _ h => synS.len h) fun s φ u0 u1 u2 u3 v0 v1 v2 v3 K r0 r1 r2 r3 => ?_
    exact ⟨[v0, v1, v2, v3], rfl, bind_rs_calc_syndromes X.k27 K v0 v1 v2 v3, ⟨r0, r1, r2, r3, trivial⟩⟩
  · intro us hp Q h
    rw [hgs]
    exact tr_syn h6 h11 h
theorem ok_rs_find_errata_locator {W : Wld} (X : Wo W) (hgs : W.gs = GS) {C6 : CallForm} (h6 : W.G[6]? = some (C6, powS)) {C8 : CallForm} (h8 : W.G[8]? = some (C8, addS)) {C9 : CallForm} (h9 : W.G[9]? = some (C9, polyMulS)) : FnOK W (!pcs.getD 15 false) (W.n + 1) ⟨"rs_find_errata_locator", []⟩ locS := by
  refine fn_okV X.ok (T := tx "rs_find_errata_locator" ns_rs_find_errata_locator) (full := fun us => us) (X.mg "rs_find_errata_locator" 151 (by decide +kernel)) (def_rs_find_errata_locator X.k27) X.cf.symm X.gn.symm (by decide +kernel) is_rs_find_errata_locator (by rw [X.pc]; decide +kernel) ?_ ?_
  · refine bindP2 ["e_pos", "generator"] _ rfl (by decide +kernel) rfl (fun _ _ _ h => locS.len h) fun s φ u0 u1 v0 v1 K r0 r1 => ?_
    exact ⟨[v0, v1], rfl, bind_rs_find_errata_locator X.k27 K v0 v1, ⟨r0, r1, trivial⟩⟩
  · intro us hp Q h
    rw [hgs]
    exact tr_loc h6 h8 h9 h
theorem ok_rs_find_error_evaluator {W : Wld} (X : Wo W) (hgs : W.gs = GS) {C9 : CallForm} (h9 : W.G[9]? = some (C9, polyMulS)) {C10 : CallForm} (h10 : W.G[10]? = some (C10, polyDivS)) : FnOK W (!pcs.getD 16 false) (W.n + 1) ⟨"rs_find_error_evaluator", []⟩ evrS := by
  refine fn_okV X.ok (T := tx "rs_find_error_evaluator" ns_rs_find_error_evaluator) (full := fun us => us) (X.mg "rs_find_error_evaluator" 158 (by decide +kernel)) (def_rs_find_error_evaluator X.k27) X.cf.symm X.gn.symm (by decide +kernel) is_rs_find_error_evaluator (by rw [X.pc]; decide +kernel) ?_ ?_
  · refine bindP3 ["synd", "err_loc", "nsym"] _ rfl (by decide +kernel) rfl (fun _ _ _ h => evrS.len h) fun s φ u0 u1 u2 v0 v1 v2 K r0 r1 r2 => ?_
    exact ⟨[v0, v1, v2], rfl, bind_rs_find_error_evaluator X.k27 K v0 v1 v2, ⟨r0, r1, r2, trivial⟩⟩
  · intro us hp Q h
    rw [hgs]
    exact tr_evr h9 h10 h
theorem ok_rs_correct_errata {W : Wld} (X : Wo W) (hgs : W.gs = GS) {C2 : CallForm} (h2 : W.G[2]? = some (C2, subS)) {C3 : CallForm} (h3 : W.G[3]? = some (C3, invS)) {C4 : CallForm} (h4 : W.G[4]? = some (C4, mulS)) {C5 : CallForm} (h5 : W.G[5]? = some (C5, divS)) {C6 : CallForm} (h6 : W.G[6]? = some (C6, powS)) {C8 : CallForm} (h8 : W.G[8]? = some (C8, addS)) {C11 : CallForm} (h11 : W.G[11]? = some (C11, evalS)) {C15 : CallForm} (h15 : W.G[15]? = some (C15, locS)) {C16 : CallForm} (h16 : W.G[16]? = some (C16, evrS)) : FnOK W (!pcs.getD 17 false) (W.n + 1) ⟨"rs_correct_errata", []⟩ errS := by
  refine fn_okV X.ok (T := tx "rs_correct_errata" ns_rs_correct_errata) (full := fun us => us) (X.mg "rs_correct_errata" 135 (by decide +kernel)) (def_rs_correct_errata X.k27) X.cf.symm X.gn.symm (by decide +kernel) is_rs_correct_errata (by rw [X.pc]; decide +kernel) ?_ ?_
  · refine bindP5 ["msg_in", "synd", "err_pos", "fcr", "generator"] _ rfl (by decide +kernel) rfl (fun _ _ _ h => errS.len h) fun s φ u0 u1 u2 u3 u4 v0 v1 v2 v3 v4 K r0 r1 r2 r3 r4 => ?_
    exact ⟨[v0, v1, v2, v3, v4], rfl, bind_rs_correct_errata X.k27 K v0 v1 v2 v3 v4, ⟨r0, r1, r2, r3, r4, trivial⟩⟩
  · intro us hp Q h
    rw [hgs]
    exact tr_err h2 h3 h4 h5 h6 h8 h11 h15 h16 h
theorem ok_rs_find_error_locator {W : Wld} (X : Wo W) (hgs : W.gs = GS) {C3 : CallForm} (h3 : W.G[3]? = some (C3, invS)) {C4 : CallForm} (h4 : W.G[4]? = some (C4, mulS)) {C7 : CallForm} (h7 : W.G[7]? = some (C7, scaleS)) {C8 : CallForm} (h8 : W.G[8]? = some (C8, addS)) : FnOK W (!pcs.getD 18 false) (W.n + 1) ⟨"rs_find_error_locator", ["erase_count"]⟩ bmS := by
  refine fn_okV X.ok (T := tx "rs_find_error_locator" ns_rs_find_error_locator) (full := bmFull) (X.mg "rs_find_error_locator" 143 (by decide +kernel)) (def_rs_find_error_locator X.k27) X.cf.symm X.gn.symm (by decide +kernel) is_rs_find_error_locator (by rw [X.pc]; decide +kernel) ?_ ?_
  · refine bindK3 ["synd", "nsym", "erase_loc", "erase_count"] _ rfl (by decide +kernel) rfl (fun _ _ _ h => bmS.len h) fun s φ u0 u1 u2 v0 v1 v2 K r0 r1 r2 => ?_
    exact ⟨[v0, v1, .none, v2], rfl, bind_rs_find_error_locator X.k27 K v0 v1 v2, ⟨r0, r1, rfl, r2, trivial⟩⟩
  · intro us hp Q h
    rw [hgs]
    exact tr_bm h3 h4 h7 h8 h
theorem ok_rs_find_errors {W : Wld} (X : Wo W) (hgs : W.gs = GS) {C6 : CallForm} (h6 : W.G[6]? = some (C6, powS)) {C11 : CallForm} (h11 : W.G[11]? = some (C11, evalS)) : FnOK W (!pcs.getD 19 false) (W.n + 1) ⟨"rs_find_errors", []⟩ findS := by
  refine fn_okV X.ok (T := tx "rs_find_errors" ns_rs_find_errors) (full := fun us => us) (X.mg "rs_find_errors" 166 (by decide +kernel)) (def_rs_find_errors X.k27) X.cf.symm X.gn.symm (by decide +kernel) is_rs_find_errors (by rw [X.pc]; decide +kernel) ?_ ?_
  · refine bindP3 ["err_loc", "nmess", "generator"] _ rfl (by decide +kernel) rfl (fun _ _ _ h => findS.len h) fun s φ u0 u1 u2 v0 v1 v2 K r0 r1 r2 => ?_
    exact ⟨[v0, v1, v2], rfl, bind_rs_find_errors X.k27 K v0 v1 v2, ⟨r0, r1, r2, trivial⟩⟩
  · intro us hp Q h
    rw [hgs]
    exact tr_find h6 h11 h
theorem ok_rs_forney_syndromes {W : Wld} (X : Wo W) (hgs : W.gs = GS) {C6 : CallForm} (h6 : W.G[6]? = some (C6, powS)) {C4 : CallForm} (h4 : W.G[4]? = some (C4, mulS)) : FnOK W (!pcs.getD 20 false) (W.n + 1) ⟨"rs_forney_syndromes", []⟩ fornS := by
  refine fn_okV X.ok (T := tx "rs_forney_syndromes" ns_rs_forney_syndromes) (full := fun us => us) (X.mg "rs_forney_syndromes" 172 (by decide +kernel)) (def_rs_forney_syndromes X.k27) X.cf.symm X.gn.symm (by decide +kernel) is_rs_forney_syndromes (by rw [X.pc]; decide +kernel) ?_ ?_
  · refine bindP4 ["synd", "pos", "nmess", "generator"] _ rfl (by decide +kernel) rfl (fun _ _ _ h => fornS.len h) fun s φ u0 u1 u2 u3 v0 v1 v2 v3 K r0 r1 r2 r3 => ?_
    exact ⟨[v0, v1, v2, v3], rfl, bind_rs_forney_syndromes X.k27 K v0 v1 v2 v3, ⟨r0, r1, r2, r3, trivial⟩⟩
  · intro us hp Q h
    rw [hgs]
    exact tr_forn h6 h4 h
theorem ok_rs_correct_msg {W : Wld} (X : Wo W) (hgs : W.gs = GS) {C14 : CallForm} (h14 : W.G[14]? = some (C14, synS)) {C17 : CallForm} (h17 : W.G[17]? = some (C17, errS)) {C18 : CallForm} (h18 : W.G[18]? = some (C18, bmS)) {C19 : CallForm} (h19 : W.G[19]? = some (C19, findS)) {C20 : CallForm} (h20 : W.G[20]? = some (C20, fornS)) : FnOK W (!pcs.getD 21 false) (W.n + 1) ⟨"rs_correct_msg", ["erase_pos"]⟩ corS := by
  refine fn_okV X.ok (T := tx "rs_correct_msg" ns_rs_correct_msg) (full := corFull) (X.mg "rs_correct_msg" 180 (by decide +kernel)) (def_rs_correct_msg X.k27) X.cf.symm X.gn.symm (by decide +kernel) is_rs_correct_msg (by rw [X.pc]; decide +kernel) ?_ ?_
  · refine bindK3 ["msg_in", "nsym", "fcr", "generator", "erase_pos", "only_erasures"] _ rfl (by decide +kernel) rfl (fun _ _ _ h => corS.len h) fun s φ u0 u1 u2 v0 v1 v2 K r0 r1 r2 => ?_
    exact ⟨[v0, v1, (.int 0 425), (.int 2 426), v2, (.bool false)], rfl, bind_rs_correct_msg X.k27 K v0 v1 v2, ⟨r0, r1, ⟨_, rfl⟩, ⟨_, rfl⟩, r2, rfl, trivial⟩⟩
  · intro us hp Q h
    rw [hgs]
    exact tr_cor h14 h17 h18 h19 h20 h
theorem ok_rs_check {W : Wld} (X : Wo W) (hgs : W.gs = GS) {C14 : CallForm} (h14 : W.G[14]? = some (C14, synS)) : FnOK W (!pcs.getD 22 false) (W.n + 1) ⟨"rs_check", []⟩ checkS := by
  refine fn_okV X.ok (T := tx "rs_check" ns_rs_check) (full := fun us => us ++ [V.int 0, .int 2]) (X.mg "rs_check" 188 (by decide +kernel)) (def_rs_check X.k27) X.cf.symm X.gn.symm (by decide +kernel) is_rs_check (by rw [X.pc]; decide +kernel) ?_ ?_
  · refine bindP2 ["msg", "nsym", "fcr", "generator"] _ rfl (by decide +kernel) rfl (fun _ _ _ h => checkS.len h) fun s φ u0 u1 v0 v1 K r0 r1 => ?_
    exact ⟨[v0, v1, (.int 0 445), (.int 2 446)], rfl, bind_rs_check X.k27 K v0 v1, ⟨r0, r1, ⟨_, rfl⟩, ⟨_, rfl⟩, trivial⟩⟩
  · intro us hp Q h
    rw [hgs]
    exact tr_check h14 h
end Mine
end
section
open PySem PySem.W PyProof.Rows
namespace Mine
noncomputable def F0 : Spec := fun _ _ _ => False
noncomputable def Gj (j : Nat) : Fns := (List.range 23).map fun i => (forms.getD i ⟨"", []⟩, if i < j then specs.getD i F0 else F0)
noncomputable def Wj (w : World) (hb : Heap) (mg mb : Str → Option Value) (gs : List V) (j : Nat) : Wld := ⟨PySem.Challenge.pw_md0036_01, w, hb, mg, mb, Gj j, gnames, gs, pcs, j⟩
theorem Gj_get {j c : Nat} (h : c < 23) : (Gj j)[c]? = some (forms.getD c ⟨"", []⟩, if c < j then specs.getD c F0 else F0) := by
  unfold Gj
  rw [List.getElem?_map, List.getElem?_range h]; rfl
theorem Gj_forms (j : Nat) : (Gj j).map (·.1) = forms := by
  unfold Gj
  rw [List.map_map]
  show (List.range 23).map (fun i => forms.getD i ⟨"", []⟩) = forms
  rfl
theorem fn_no {W : Wld} {k : Bool} {n : Nat} {C : CallForm} {a : Addr} {fd : FuncData} {sc : Scope} {body : List Stmt} (hm : W.mg C.name = some (.ref a)) (D : Def W.hb a fd sc body) : FnOK W k n C F0 := by
  obtain ⟨o, ho, hd⟩ := D.obj
  exact ⟨a, o, fd, hm, ho, hd, fun A s φ hp us vs ws Q _ _ _ _ _ _ q => q.elim⟩
section
variable {w : World} {hb : Heap} {mg mb : Str → Option Value} {gs : List V}
theorem wo_zero (B : Base hb mg mb) (K : K27 w hb) (hmg : ∀ (x : Str) a, (x, a) ∈ addrs → mg x = some (.ref a)) : Wo (Wj w hb mg mb gs 0) := by
  refine ⟨⟨B, fun c f hf => ?_⟩, K, Gj_forms 0, rfl, rfl, hmg⟩
  have hc : c < 23 := by
    have := (List.getElem?_eq_some_iff.mp hf).1
    have e : (Gj 0).length = 23 := by simp [Gj]
    rw [← e]; exact this
  have hf' : (Gj 0)[c]? = some f := hf
  rw [Gj_get hc, if_neg (by omega)] at hf'
  cases hf'
  match c, hc with
  | 0, _ => exact fn_no (hmg "gf_mult_noLUT" 78 (by decide +kernel)) (def_gf_mult_noLUT K)
  | 1, _ => exact fn_no (hmg "init_tables" 35 (by decide +kernel)) (def_init_tables K)
  | 2, _ => exact fn_no (hmg "gf_sub" 42 (by decide +kernel)) (def_gf_sub K)
  | 3, _ => exact fn_no (hmg "gf_inverse" 49 (by decide +kernel)) (def_gf_inverse K)
  | 4, _ => exact fn_no (hmg "gf_mul" 56 (by decide +kernel)) (def_gf_mul K)
  | 5, _ => exact fn_no (hmg "gf_div" 63 (by decide +kernel)) (def_gf_div K)
  | 6, _ => exact fn_no (hmg "gf_pow" 70 (by decide +kernel)) (def_gf_pow K)
  | 7, _ => exact fn_no (hmg "gf_poly_scale" 83 (by decide +kernel)) (def_gf_poly_scale K)
  | 8, _ => exact fn_no (hmg "gf_poly_add" 90 (by decide +kernel)) (def_gf_poly_add K)
  | 9, _ => exact fn_no (hmg "gf_poly_mul" 95 (by decide +kernel)) (def_gf_poly_mul K)
  | 10, _ => exact fn_no (hmg "gf_poly_div" 102 (by decide +kernel)) (def_gf_poly_div K)
  | 11, _ => exact fn_no (hmg "gf_poly_eval" 109 (by decide +kernel)) (def_gf_poly_eval K)
  | 12, _ => exact fn_no (hmg "rs_generator_poly" 117 (by decide +kernel)) (def_rs_generator_poly K)
  | 13, _ => exact fn_no (hmg "rs_encode_msg" 123 (by decide +kernel)) (def_rs_encode_msg K)
  | 14, _ => exact fn_no (hmg "rs_calc_syndromes" 129 (by decide +kernel)) (def_rs_calc_syndromes K)
  | 15, _ => exact fn_no (hmg "rs_find_errata_locator" 151 (by decide +kernel)) (def_rs_find_errata_locator K)
  | 16, _ => exact fn_no (hmg "rs_find_error_evaluator" 158 (by decide +kernel)) (def_rs_find_error_evaluator K)
  | 17, _ => exact fn_no (hmg "rs_correct_errata" 135 (by decide +kernel)) (def_rs_correct_errata K)
  | 18, _ => exact fn_no (hmg "rs_find_error_locator" 143 (by decide +kernel)) (def_rs_find_error_locator K)
  | 19, _ => exact fn_no (hmg "rs_find_errors" 166 (by decide +kernel)) (def_rs_find_errors K)
  | 20, _ => exact fn_no (hmg "rs_forney_syndromes" 172 (by decide +kernel)) (def_rs_forney_syndromes K)
  | 21, _ => exact fn_no (hmg "rs_correct_msg" 180 (by decide +kernel)) (def_rs_correct_msg K)
  | 22, _ => exact fn_no (hmg "rs_check" 188 (by decide +kernel)) (def_rs_check K)
  | n + 23, h => omega
theorem wo_step {j : Nat} {C : CallForm} {tr : Spec} (hj : (Gj (j + 1))[j]? = some (C, tr)) (X : Wo (Wj w hb mg mb gs j)) (h : FnOK (Wj w hb mg mb gs j) (!pcs.getD j false) (j + 1) C tr) : Wo (Wj w hb mg mb gs (j + 1)) := by
  refine ⟨⟨X.ok.base, fun c f hf => ?_⟩, X.k27, Gj_forms _, rfl, rfl, X.mg⟩
  have hc : c < 23 := by
    have := (List.getElem?_eq_some_iff.mp hf).1
    have e : (Gj (j + 1)).length = 23 := by simp [Gj]
    rw [← e]; exact this
  have hf' : (Gj (j + 1))[c]? = some f := hf
  by_cases hcj : c = j
  · subst hcj
    rw [hj] at hf'
    cases hf'
    exact FnOK.mono (W := Wj w hb mg mb gs c) (W' := Wj w hb mg mb gs (c + 1)) rfl rfl rfl rfl rfl rfl (Nat.le_refl _) h
  · have : (Gj j)[c]? = some f := by
      rw [← hf', Gj_get hc, Gj_get hc]
      by_cases h1 : c < j
      · rw [if_pos h1, if_pos (by omega)]
      · rw [if_neg h1, if_neg (by omega)]
    exact FnOK.mono (W := Wj w hb mg mb gs j) (W' := Wj w hb mg mb gs (j + 1)) rfl rfl rfl rfl rfl rfl (Nat.le_succ _) (X.ok.fns c f this)
theorem wo_two (B : Base hb mg mb) (K : K27 w hb) (hmg : ∀ (x : Str) a, (x, a) ∈ addrs → mg x = some (.ref a)) : Wo (Wj w hb mg mb gs 2) := by
  have w0 : Wo (Wj w hb mg mb gs 0) := wo_zero B K hmg
  have w1 := wo_step (j := 0) rfl w0 (ok_gf_mult_noLUT w0)
  have w2 := wo_step (j := 1) rfl w1 (ok_init_tables w1 rfl)
  exact w2
theorem wo_all (B : Base hb mg mb) (K : K27 w hb) (hmg : ∀ (x : Str) a, (x, a) ∈ addrs → mg x = some (.ref a)) (hgs : gs = GS) : Wo (Wj w hb mg mb gs 23) := by
  have w2 : Wo (Wj w hb mg mb gs 2) := wo_two B K hmg
  have w3 := wo_step (j := 2) rfl w2 (ok_gf_sub w2 hgs)
  have w4 := wo_step (j := 3) rfl w3 (ok_gf_inverse w3 hgs)
  have w5 := wo_step (j := 4) rfl w4 (ok_gf_mul w4 hgs)
  have w6 := wo_step (j := 5) rfl w5 (ok_gf_div w5 hgs)
  have w7 := wo_step (j := 6) rfl w6 (ok_gf_pow w6 hgs)
  have w8 := wo_step (j := 7) rfl w7 (ok_gf_poly_scale w7 hgs rfl)
  have w9 := wo_step (j := 8) rfl w8 (ok_gf_poly_add w8)
  have w10 := wo_step (j := 9) rfl w9 (ok_gf_poly_mul w9 hgs)
  have w11 := wo_step (j := 10) rfl w10 (ok_gf_poly_div w10 hgs)
  have w12 := wo_step (j := 11) rfl w11 (ok_gf_poly_eval w11 hgs rfl)
  have w13 := wo_step (j := 12) rfl w12 (ok_rs_generator_poly w12 hgs rfl rfl)
  have w14 := wo_step (j := 13) rfl w13 (ok_rs_encode_msg w13 hgs rfl)
  have w15 := wo_step (j := 14) rfl w14 (ok_rs_calc_syndromes w14 hgs rfl rfl)
  have w16 := wo_step (j := 15) rfl w15 (ok_rs_find_errata_locator w15 hgs rfl rfl rfl)
  have w17 := wo_step (j := 16) rfl w16 (ok_rs_find_error_evaluator w16 hgs rfl rfl)
  have w18 := wo_step (j := 17) rfl w17 (ok_rs_correct_errata w17 hgs rfl rfl rfl rfl rfl rfl rfl rfl rfl)
  have w19 := wo_step (j := 18) rfl w18 (ok_rs_find_error_locator w18 hgs rfl rfl rfl rfl)
  have w20 := wo_step (j := 19) rfl w19 (ok_rs_find_errors w19 hgs rfl rfl)
  have w21 := wo_step (j := 20) rfl w20 (ok_rs_forney_syndromes w20 hgs rfl rfl)
  have w22 := wo_step (j := 21) rfl w21 (ok_rs_correct_msg w21 hgs rfl rfl rfl rfl rfl)
  have w23 := wo_step (j := 22) rfl w22 (ok_rs_check w22 hgs rfl)
  exact w23
end
end Mine
end
section
open PySem PySem.W PyProof.Rows
namespace Mine
noncomputable abbrev Pr : Program := PySem.Challenge.pw_md0036_01
noncomputable def B0 (w : World) (os : OsState) : Shared := ⟨boot_heap w.params, Array.mk [], boot_drawn, boot_toks, os⟩
noncomputable def T15 (w : World) (os : OsState) : SharedT := { tree := top27.tree_4 w.params, n := 15, life := {}, gens := { toList := [] }, drawn := {}, toks := 187, os := os }
noncomputable def stubOf (b : List Stmt) : Thread :=
  ⟨do let code ← moduleCode Pr.main
      let frame ← newBodyFrame code mainNs mainNs
      let _ ← run (.body b { scope := Pr.main.scope, locals := mainNs, globals := mainNs, cells := [], code, frame := some frame })
      ret .none,
   .builtin "claim.caller" {}, default, []⟩
example : topStub Pr = stubOf (behindTheImports Pr) := rfl
theorem pre_run (w : World) (os : OsState) (b : List Stmt) : topGo treeTable Pr w 11 (some (.ref 6)) 12 (B0 w os) (stubOf b) = some ((T15 w os).abs, ⟨denote treeTable (.body b top27.env_1), .body b top27.env_1, ⟨0, 0, 0, 0⟩, [topFrame ⟨0, 0, 0, 0⟩]⟩) := by
  kernel_rfl
end Mine
end
section
open PySem PySem.W PyProof.Rows
open Sem (wp)
namespace Mine
theorem calm_done (f : Flow) (c : Code) (p : Pos) : Thread.calm ⟨.pure (.done f), c, p, []⟩ = true := by
  rw [Thread.calm_eq]
  simp [Thread.loud, Thread.refused, Thread.atCollectorCode, Thread.yieldsInsideHandler]
theorem topRun_runs {p : Program} {w : World} {n₀ : Nat} {ann : Option Value} : ∀ (n : Nat) (s : Shared) (t : Thread) (s1 : Shared), topRun table p w n₀ ann n s t = some s1 →
    ∃ m f c' p', runN (denote table) p w m s t = .running s1 ⟨.pure (.done f), c', p', []⟩ ∧ ∀ k s₂ t₂, k ≤ m → runN (denote table) p w k s t = .running s₂ t₂ → t₂.calm = true
  | 0, _, _, _, h => by simp [topRun] at h
  | n + 1, s, t, s1, h => by
    unfold topRun at h
    induction ht : through t with
    | true =>
      rw [ht] at h
      obtain rfl : s = s1 := Option.some.inj h
      obtain ⟨cur, code, pos, stack⟩ := t
      simp only [through, Bool.and_eq_true, List.isEmpty_iff] at ht
      obtain ⟨rfl, ht⟩ := ht
      split at ht
      · rename_i x f
        refine ⟨0, f, code, pos, rfl, fun k s₂ t₂ hk e => ?_⟩
        obtain rfl : k = 0 := by omega
        have e' : Run.running s ⟨.pure (.done f), code, pos, []⟩ = .running s₂ t₂ := e
        injection e' with _ e2
        rw [← e2]; exact calm_done _ _ _
      · cases ht
    | false =>
      rw [ht] at h
      induction hk : stepOk n₀ ann t with
      | false => rw [hk] at h; cases h
      | true =>
        rw [hk] at h
        induction hs : step (denote table) p w s t with
        | halt o s' => rw [hs] at h; cases h
        | go s' t' =>
          rw [hs] at h
          obtain ⟨hc, _⟩ := Bool.and_eq_true_iff.mp hk
          obtain ⟨m, f, c', p', hm, hcalm⟩ := topRun_runs n s' t' s1 h
          refine ⟨m + 1, f, c', p', by simp only [runN, hs]; exact hm, fun k s₂ t₂ hkm e => ?_⟩
          induction k with
          | zero =>
            have e' : Run.running s t = .running s₂ t₂ := e
            injection e' with _ e2
            rw [← e2]; exact hc
          | succ k =>
            simp only [runN, hs] at e
            exact hcalm k s₂ t₂ (by omega) e
theorem runN_add {den : Code → Sem Fin} {p : Program} {w : World} : ∀ {m k : Nat} {s s1 : Shared} {t t1 : Thread}, runN den p w m s t = .running s1 t1 → runN den p w (m + k) s t = runN den p w k s1 t1
  | 0, k, s, s1, t, t1, h => by
    have e : Run.running s t = .running s1 t1 := h
    injection e with e1 e2
    subst e1 e2
    rw [Nat.zero_add]
  | m + 1, k, s, s1, t, t1, h => by
    rw [show m + 1 + k = m + k + 1 by omega]
    simp only [runN] at h ⊢
    induction hs : step den p w s t with
    | go s' t' => rw [hs] at h; simp only; exact runN_add h
    | halt o s' => rw [hs] at h; cases h
theorem topRun_Runs {p : Program} {w : World} {n₀ : Nat} {ann : Option Value} {n : Nat} {s s1 : Shared} {t : Sem Fin} {c : Code} {pos : Pos} {st : List PySem.Frame} (h : topRun table p w n₀ ann n s ⟨t, c, pos, st⟩ = some s1) (hg : s1.gens = #[]) :
    ∃ f, Runs (model p w) ⟨c, none, none, [], none⟩ pos t st s (.ret (.ok f)) s1 := by
  obtain ⟨m, f, c', p', hm, hcalm⟩ := topRun_runs n s _ s1 h
  have hl : leftWithCleanup s1.gens = false := by rw [hg]; simp [leftWithCleanup]
  have hstep : step (denote table) p w s1 ⟨.pure (.done f), c', p', []⟩ = .halt (.done f) s1 := by
    obtain ⟨heap, gens, drawn, toks, os⟩ := s1
    have hl' : leftWithCleanup gens = false := hl
    simp [step, finish, hl']
  have hend : ∀ k, runN (denote table) p w (m + (k + 1)) s ⟨t, c, pos, st⟩ = .halted (.done f) s1 := fun k => by
    rw [runN_add hm]
    simp only [runN, hstep]
  have := (halts_real_iff (M := model p w) (r := .ok f) (s := s) (t := t) (c := c) (p := pos) (st := st) s1.forget).mp ⟨m + 1, s1, hend 0, rfl, fun k s₂ t₂ hk => by
    rcases Nat.lt_or_ge m k with h1 | h1
    · obtain ⟨d, rfl⟩ := Nat.exists_eq_add_of_le h1
      have e := hend d
      rw [show m + (d + 1) = m.succ + d by omega] at e
      have hk' : runN (denote table) p w (m.succ + d) s ⟨t, c, pos, st⟩ = .running s₂ t₂ := hk
      rw [e] at hk'
      cases hk'
    · exact hcalm k s₂ t₂ h1 hk⟩
  obtain ⟨n', s', hn', hf⟩ := this
  have hs' : s' = s1 := Shared.eq_of_forget_eq hf hg
  subst hs'
  exact ⟨f, (halts_iff.mp ⟨n', hn'⟩).1⟩
noncomputable abbrev env1 : Env := top27.env_1
noncomputable abbrev q0 : Pos := ⟨0, 0, 0, 0⟩
noncomputable def ctxB (b : List Stmt) : Ctx := Ctx.of (.body b env1) [topFrame q0]
noncomputable def SegP (M : Model) (Γ : Ctx) (p : Pos) (t : Sem Fin) (s s' : Shared) (e : End) : List PySem.Frame → Prop
  | [] => True
  | F :: fs => fs = [] → ∀ k h g l c₁ p₁ kp, F = .ret k h g l c₁ p₁ kp → ∀ r', e = .ret r' → ∃ r s₁, Runs M (Γ.over [F]) p t [] s (.ret r) s₁ ∧ Runs M (Γ.goto c₁) p₁ (k r) [] s₁ e s'
theorem seg_core {M : Model} {Γ : Ctx} {p : Pos} {t : Sem Fin} {fs : List PySem.Frame} {s s' : Shared} {e : End} (h : Runs M Γ p t fs s e s') : SegP M Γ p t s s' e fs := by
  induction h using Runs.casesOn with
  | segRet h1 h2 =>
    rintro rfl k h g l c p kp hF r' -
    cases hF
    exact ⟨_, _, h1, h2⟩
  | segGen => exact fun _ _ _ _ _ _ _ _ hF => nomatch hF
  | segSuspOut => exact fun _ _ _ _ _ _ _ _ _ _ he => nomatch he
  | segSuspGen h0 =>
    rintro rfl k h g l c p kp rfl
    exact nomatch h0
  | _ => trivial
noncomputable def EndP (s s' : Shared) (e : End) : List PySem.Frame → Sem Fin → Prop
  | [], .pure (.done f) => e = .ret (.ok f) ∧ s' = s
  | [], .raise x => e = .ret (.error x) ∧ s' = s
  | _, _ => True
theorem end_core {M : Model} {Γ : Ctx} {p : Pos} {t : Sem Fin} {fs : List PySem.Frame} {s s' : Shared} {e : End} (h : Runs M Γ p t fs s e s') : EndP s s' e fs t := by
  induction h using Runs.casesOn with
  | done => exact ⟨rfl, rfl⟩
  | raise => exact ⟨rfl, rfl⟩
  | segRet => trivial
  | segGen => trivial
  | segSuspGen => trivial
  | segSuspOut => trivial
  | _ => trivial
theorem seg_inv {M : Model} {c : Code} {p : Pos} {t : Sem Fin} {s s1 : Shared} {f : Flow} (h : Runs M ⟨c, none, none, [], none⟩ p t [topFrame q0] s (.ret (.ok f)) s1) : ∃ g, Runs M (Ctx.of c [topFrame q0]) p t [] s (.ret (.ok g)) s1 := by
  obtain ⟨r, s₂, h1, h2⟩ := seg_core h rfl _ _ _ _ _ _ _ rfl _ rfl
  induction r with
  | ok g =>
    obtain ⟨-, rfl⟩ : _ ∧ s1 = s₂ := end_core h2
    exact ⟨g, h1⟩
  | error e =>
    obtain ⟨h, -⟩ : _ = _ ∧ s1 = s₂ := end_core h2
    exact End.noConfusion (show End.ret (.ok f) = End.ret (.error _) from h) nofun
theorem rest_wrap (l : List Stmt) (env : Env) : (execs l env).wrap doneF (leaveH env) id id = ((execs l env).onRaise (PySem.leaving env)).bind fun f => (Sem.pure (Fin.done f) : Sem Fin) := by
  rw [Sem.bind_eq_wrap, Sem.onRaise_eq_wrap, Sem.wrap_wrap]
  rfl
theorem wp_rest {M : Model} {Γ : Ctx} {l : List Stmt} {env : Env} {R : Result → Shared → Prop} {p : Pos} {s : Shared} :
    wp M Γ ((execs l env).wrap doneF (leaveH env) id id) (Sem.finPost M Γ R) (fun e _ s' => R (.error e) s') p s ↔
      wp M Γ (execs l env) (fun f _ s' => R (.ok f) s') (fun e p' s' => wp M Γ (PySem.leaving env e) (fun _ _ s'' => R (.error e) s'') (fun e' _ s'' => R (.error e') s'') p' s') p s := by
  rw [rest_wrap]
  show wp M Γ (((execs l env).onRaise (PySem.leaving env)) >>= fun f => (Sem.pure (Fin.done f) : Sem Fin)) _ _ p s ↔ _
  rw [Sem.wp_bind', Sem.wp_onRaise]
  exact Iff.rfl
noncomputable def junk : Stmt := .Expr (.Constant (.int 0) 0 q0) q0
theorem end0 (w : World) (os : OsState) (b : List Stmt) : topRun treeTable Pr w 11 (some (.ref 6)) 3 (S27 w os) (restOf [] env1 (.body b env1) ⟨213, 0, 214, 65⟩ [topFrame q0]) = some (S27 w os) := by kernel_rfl
theorem end1 (w : World) (os : OsState) (b : List Stmt) : ∃ N s, topRun treeTable Pr w 11 (some (.ref 6)) N (S27 w os) (restOf [junk] env1 (.body b env1) ⟨213, 0, 214, 65⟩ [topFrame q0]) = some s ∧ s.toks = 458 ∧ s.gens = #[] := by
  refine ⟨12, { S27 w os with toks := 458 }, ?_, rfl, rfl⟩
  kernel_rfl
end Mine
end
section
open PySem PySem.W PyProof.Rows
open Sem (wp)
namespace Mine
theorem wp_execs_append {M : Model} {Γ : Ctx} {env : Env} {Q : Flow → Pos → Shared → Prop} {E : Value → Pos → Shared → Prop} {r : List Stmt} : ∀ {l : List Stmt} {p : Pos} {s : Shared},
    wp M Γ (execs (l ++ r) env) Q E p s ↔ wp M Γ (execs l env) (fun f p s => match f with | .next => wp M Γ (execs r env) Q E p s | f => Q f p s) E p s
  | [], p, s => Iff.rfl
  | st :: l, p, s => by
    rw [List.cons_append, PySem.execs_cons, PySem.execs_cons, Sem.wp_bind', Sem.wp_bind']
    have key : ∀ (f : Flow) p s, wp M Γ (match f with | .next => execs (l ++ r) env | f => pure f) Q E p s ↔ wp M Γ (match f with | .next => execs l env | f => pure f) (fun f p s => match f with | .next => wp M Γ (execs r env) Q E p s | f => Q f p s) E p s := fun f p s => by
      induction f with
      | next => exact wp_execs_append
      | _ => exact Iff.rfl
    exact ⟨Sem.wp_mono M Γ _ (fun f p s h => (key f p s).mp h) (fun _ _ _ h => h) p s, Sem.wp_mono M Γ _ (fun f p s h => (key f p s).mpr h) (fun _ _ _ h => h) p s⟩
noncomputable def sts27 : List Stmt := top27.sts
theorem S27_gens (w : World) (os : OsState) : (S27 w os).gens = #[] := rfl
theorem S27_toks (w : World) (os : OsState) : (S27 w os).toks = 457 := rfl
theorem runs27 (w : World) (os : OsState) (b : List Stmt) : ∃ g, Runs (model Pr w) (Ctx.of (.body b env1) [topFrame q0]) q0 ((execs sts27 env1).wrap doneF (leaveH env1) id id) [] (T15 w os).abs (.ret (.ok g)) (S27 w os) := by
  have h := top27.chain Pr b w os [] 3 (S27 w os) (end0 w os b)
  rw [List.append_nil, ← table_eq_tree] at h
  obtain ⟨f, hf⟩ := topRun_Runs h (S27_gens w os)
  exact seg_inv hf
theorem wp27j (w : World) (os : OsState) (b : List Stmt) : wp (model Pr w) (ctxB b) (execs sts27 env1) (fun f _ s' => f = .next ∨ s'.toks = 458) (fun e p' s' => wp (model Pr w) (ctxB b) (PySem.leaving env1 e) (fun _ _ _ => False) (fun _ _ _ => False) p' s') q0 (T15 w os).abs := by
  obtain ⟨N, sj, hN, ht, hg⟩ := end1 w os b
  have h := top27.chain Pr b w os [junk] N sj hN
  rw [← table_eq_tree] at h
  obtain ⟨f, hf⟩ := topRun_Runs h hg
  obtain ⟨g, hr⟩ := seg_inv hf
  have hw := (Sem.wp_iff_runs (model Pr w) (ctxB b) _ (fun r s' => r = .ok g ∧ s' = sj) q0 (T15 w os).abs).mpr ⟨_, _, hr, rfl, rfl⟩
  have hw := wp_rest.mp hw
  have hw := wp_execs_append.mp hw
  refine Sem.wp_mono _ _ _ (fun f p s h => ?_) (fun e p s h => ?_) _ _ hw
  · induction f with
    | next => exact .inl rfl
    | _ => exact .inr (by rw [h.2]; exact ht)
  · exact Sem.wp_mono _ _ _ (fun _ _ _ h => by cases h.1) (fun _ _ _ h => by cases h.1) _ _ h
theorem wp27 (w : World) (os : OsState) (b : List Stmt) : wp (model Pr w) (ctxB b) (execs sts27 env1) (fun f _ s' => f = .next ∧ s' = S27 w os) (fun e p' s' => wp (model Pr w) (ctxB b) (PySem.leaving env1 e) (fun _ _ _ => False) (fun _ _ _ => False) p' s') q0 (T15 w os).abs := by
  obtain ⟨g, hr⟩ := runs27 w os b
  have hj := (Sem.wp_iff_runs (model Pr w) (ctxB b) _ (fun r s' => match r with | .ok f => f = .next ∨ s'.toks = 458 | .error _ => False) q0 (T15 w os).abs).mp (wp_rest.mpr (wp27j w os b))
  obtain ⟨r2, s2, hr2, hR⟩ := hj
  obtain ⟨es, ee⟩ := (runs_iff_reach.mp hr).det (runs_iff_reach.mp hr2)
  subst es
  cases ee
  have hg : g = .next := by
    rcases hR with h | h
    · exact h
    · rw [S27_toks] at h; omega
  subst hg
  have hw := (Sem.wp_iff_runs (model Pr w) (ctxB b) _ (fun r s' => r = .ok .next ∧ s' = S27 w os) q0 (T15 w os).abs).mpr ⟨_, _, hr, rfl, rfl⟩
  have hw := wp_rest.mp hw
  refine Sem.wp_mono _ _ _ (fun f p s h => ⟨Except.ok.inj h.1, h.2⟩) (fun e p s h => ?_) _ _ hw
  · exact Sem.wp_mono _ _ _ (fun _ _ _ h => by cases h.1) (fun _ _ _ h => by cases h.1) _ _ h
end Mine
end
section
open PySem PySem.W PyProof.Rows
open Sem (wp)
namespace Mine
noncomputable def mg27 (w : World) : Str → Option Value := (S27 w default).heap.nsMap mainGlobals
noncomputable def mb27 (w : World) : Str → Option Value := (S27 w default).heap.nsMap builtinsNs
theorem heap27 (w : World) (os os' : OsState) : (S27 w os).heap = (S27 w os').heap := rfl
theorem ns27 (w : World) (os : OsState) : (S27 w os).heap.Ns mainGlobals (mg27 w) := by
  rw [heap27 w os default]
  exact Heap.Ns.of_isNs (by kernel_rfl)
theorem nb27 (w : World) (os : OsState) : (S27 w os).heap.Ns builtinsNs (mb27 w) := by
  rw [heap27 w os default]
  exact Heap.Ns.of_isNs (by kernel_rfl)
theorem lim27 (w : World) (os : OsState) : (S27 w os).heap.NoLimit :=
  ⟨_, Heap.Ns.of_isNs (by kernel_rfl), by kernel_rfl⟩
noncomputable def AllP (m : Str → Option Value) : List (Str × Nat) → Prop
  | [] => True
  | p :: r => m p.1 = some (.ref p.2) ∧ AllP m r
theorem AllP.mem {m : Str → Option Value} : ∀ {l : List (Str × Nat)}, AllP m l → ∀ x a, (x, a) ∈ l → m x = some (.ref a)
  | p :: r, h, x, a, hm => by
    rcases List.mem_cons.mp hm with e | hm
    · cases e; exact h.1
    · exact AllP.mem h.2 x a hm
theorem addr27 (w : World) : ∀ (x : Str) a, (x, a) ∈ addrs → mg27 w x = some (.ref a) := AllP.mem (l := addrs) ⟨by kernel_rfl, by kernel_rfl, by kernel_rfl, by kernel_rfl, by kernel_rfl, by kernel_rfl, by kernel_rfl, by kernel_rfl, by kernel_rfl, by kernel_rfl, by kernel_rfl, by kernel_rfl, by kernel_rfl, by kernel_rfl, by kernel_rfl, by kernel_rfl, by kernel_rfl, by kernel_rfl, by kernel_rfl, by kernel_rfl, by kernel_rfl, by kernel_rfl, by kernel_rfl, trivial⟩
theorem bi27 (w : World) : ∀ b x, x ∈ BI.names b → mg27 w x = some b.val ∨ mg27 w x = none ∧ mb27 w x = some b.val := by
  intro b x hx
  induction b with
  | len => obtain rfl : x = "len" := by simpa [BI.names] using hx
           exact .inr ⟨by kernel_rfl, by kernel_rfl⟩
  | max => obtain rfl : x = "max" := by simpa [BI.names] using hx
           exact .inr ⟨by kernel_rfl, by kernel_rfl⟩
  | lst => obtain rfl : x = "list" := by simpa [BI.names] using hx
           exact .inr ⟨by kernel_rfl, by kernel_rfl⟩
  | sorted => obtain rfl : x = "sorted" := by simpa [BI.names] using hx
              exact .inr ⟨by kernel_rfl, by kernel_rfl⟩
  | int => obtain rfl : x = "int" := by simpa [BI.names] using hx
           exact .inr ⟨by kernel_rfl, by kernel_rfl⟩
  | bytearray =>
    have : x = "bytearray" ∨ x = "_bytearray" := by simpa [BI.names] using hx
    rcases this with rfl | rfl
    · exact .inr ⟨by kernel_rfl, by kernel_rfl⟩
    · exact .inl (by kernel_rfl)
theorem rng27 (w : World) : ∀ x ∈ rangeNames, mg27 w x = some (.type "range") ∨ mg27 w x = none ∧ mb27 w x = some (.type "range") := by
  intro x hx
  have : x = "range" ∨ x = "xrange" := by simpa [rangeNames] using hx
  rcases this with rfl | rfl
  · exact .inr ⟨by kernel_rfl, by kernel_rfl⟩
  · exact .inl (by kernel_rfl)
theorem enm27 (w : World) : ∀ x ∈ enumNames, mg27 w x = some (.type "enumerate") ∨ mg27 w x = none ∧ mb27 w x = some (.type "enumerate") := by
  intro x hx
  obtain rfl : x = "enumerate" := by simpa [enumNames] using hx
  exact .inr ⟨by kernel_rfl, by kernel_rfl⟩
theorem base27 (w : World) (os : OsState) : Base (S27 w os).heap (mg27 w) (mb27 w) := ⟨ns27 w os, nb27 w os, lim27 w os, bi27 w, rng27 w, enm27 w⟩
theorem k27 (w : World) (os : OsState) : K27 w (S27 w os).heap := fun os' b o _ _ h => by rw [heap27 w os os']; exact h
theorem main27 (w : World) (os : OsState) : (S27 w os).heap.Main (mg27 w) 13 12 (fldOf (O27 w 12)) := by
  refine ⟨ns27 w os, ?_, by decide, ?_⟩
  · refine ⟨O27 w 13, fldOf (O27 w 13), "/claim/cut.py", 186, 0, 0, false, 181, 0, O27 w 12, get27 (by decide) rfl (by kernel_rfl), by kernel_rfl, by kernel_rfl, by kernel_rfl, by kernel_rfl, by kernel_rfl, by kernel_rfl, get27 (by decide) rfl (by kernel_rfl), by kernel_rfl, ?_, by decide⟩
    have e : TriplesOk (fldOf (O27 w 12)).toList = True := by kernel_rfl
    rw [e]; trivial
  · exact ⟨4, O27 w 4, by kernel_rfl, by decide, by decide, by decide, get27 (by decide) rfl (by kernel_rfl), by kernel_rfl, by kernel_rfl, by kernel_rfl⟩
end Mine
end
section
open PySem PySem.W PyProof.Rows
open Sem (wp)
namespace Mine
section
variable {prog : Program} {w : World} {A : Around} {E : Value → Shared → Prop} {s : Shared}
theorem draw_list {it t : Addr} {items : Array Value} (hne : t ≠ it) : ∀ (n i : Nat) (s : Shared) (Q : List Value → Shared → Prop), s.heap.IsListIter it t i → s.heap.IsList t items → i + n ≤ items.size →
    (∀ h', h'.IsListIter it t (i + n) → Heap.SameBut it s.heap h' → Q ((items.toList.drop i).take n) { s with heap := h' }) → wpAny (model prog w) A (draw (.ref it) n) Q E s
  | 0, i, s, Q, hit, _, _, hQ => by
    show wpAny _ _ (pure []) Q E s
    exact wpAny_pure (by simpa using hQ s.heap hit (Heap.SameBut.refl ..))
  | n + 1, i, s, Q, hit, ht, hle, hQ => by
    have hlt : i < items.size := by omega
    show wpAny _ _ (pyNext (.ref it) >>= _) Q E s
    refine wpAny_bind (wpAny_pyNext_list_item hit ht (x := items[i]) (by simp [hlt]) fun h₁ hit₁ hs₁ => ?_)
    refine wpAny_bind (wpAny_holding (draw_list hne n (i + 1) _ _ hit₁ (ht.extBut hs₁.extBut hne) (by omega) fun h₂ hit₂ hs₂ => wpAny_pure ?_))
    have hd : items.toList.drop i = items[i] :: items.toList.drop (i + 1) := by simp [List.drop_eq_getElem_cons, hlt]
    have := hQ h₂ (by rw [show i + (n + 1) = i + 1 + n by omega]; exact hit₂) (hs₁.trans hs₂)
    rw [hd, List.take_succ_cons] at this
    exact this
theorem unpackItems_list {t : Addr} {items : Array Value} {Q : List Value → Shared → Prop} (hh : A.handled = none) (ht : s.heap.IsList t items)
    (hQ : ∀ h', Heap.ExtBut s.heap.objs.size s.heap h' → Q items.toList { s with heap := h' }) : wpAny (model prog w) A (unpackItems (.ref t) items.size none) Q E s := by
  have hlt : t ≠ s.heap.objs.size := by obtain ⟨o, ho, _⟩ := ht; exact Nat.ne_of_lt (Heap.lt_size ho)
  unfold unpackItems
  refine wpAny_bind ?_
  · unfold notIterableAtAll
    refine wpAny_bind (wpAny_specialOf ht.typeIs slot_list_iter.lookup ?_)
    refine wpAny_pure ?_
    simp only [Bool.false_eq_true, if_false]
    refine wpAny_bind (wpAny_holding (wpAny_pyIter_list ht ?_))
    refine wpAny_bind (wpAny_holding (draw_list hlt items.size 0 _ _ ⟨_, Heap.get?_push_size _ rfl, rfl, rfl⟩ (ht.push _) (by omega) fun h₁ hit₁ hs₁ => ?_))
    have hall : List.take items.size (List.drop 0 items.toList) = items.toList := by
      rw [List.drop_zero]; exact List.take_of_length_le (by simp)
    rw [hall]
    rw [if_neg (by simp)]
    have ht₁ : h₁.IsList t items := (ht.push _).extBut hs₁.extBut hlt
    refine wpAny_bind (wpAny_holding (wpAny_pyNext_list_end hh hit₁ ht₁ (by simp) fun h₂ he₂ => ?_))
    simp only [Option.isSome_none, Bool.false_eq_true, if_false]
    refine wpAny_pure (hQ h₂ fun b o hb e => he₂ b o hb (hs₁.extBut b o hb (Heap.get?_push_of_some _ e)))
theorem assign_Tuple_list {env : Env} {elts : List Expr} {x1} {pos : Pos} {t : Addr} {items : Array Value} {Q : Unit → Shared → Prop} (hh : A.handled = none) (ht : s.heap.IsList t items)
    (hn : (assignEach elts env).length = items.size) (hstar : (assignEach elts env).findIdx? (·.1) = none)
    (h : ∀ h', Heap.ExtBut s.heap.objs.size s.heap h' → wpAny (model prog w) A (assignInOrder ((assignEach elts env).map (·.2)) items.toList) Q E { s with heap := h' }) :
    wpAny (model prog w) A (assign (.Tuple elts x1 pos) env (.ref t)) Q E s := by
  rw [assign_Tuple]
  refine wpAny_bind (wpAny_standAt ?_)
  unfold unpack
  rw [hn, hstar]
  exact wpAny_bind (wpAny_holding (unpackItems_list hh ht h))
end
noncomputable def last3 : List Stmt := Pr.main.body.drop 27
noncomputable def st28 : Stmt := .Assign [.Tuple [.Name "gf_log" ⟨215, 0, 215, 6⟩, .Name "gf_exp" ⟨215, 8, 215, 14⟩, .Name "field_charac" ⟨215, 16, 215, 28⟩] 0 ⟨215, 0, 215, 28⟩] (.Call (.Name "init_tables" ⟨215, 31, 215, 42⟩) [] [] ⟨215, 31, 215, 44⟩) ⟨215, 0, 215, 44⟩
noncomputable def st29 : Stmt := .Assign [.Name "__name__" ⟨216, 0, 216, 8⟩] (.Constant (.str "law_md0036_01") 0 ⟨216, 11, 216, 26⟩) ⟨216, 0, 216, 26⟩
noncomputable def lawRec : DefRec := ⟨"law", (defOf "law").1, (defOf "law").2.1, (defOf "law").2.2, ⟨217, 0, 241, 64⟩⟩
theorem last3_eq : last3 = [st28, st29, lawRec.stmt] := by kernel_rfl
theorem body_eq : behindTheImports Pr = sts27 ++ [st28, st29, lawRec.stmt] := by kernel_rfl
structure Made (w : World) (a0 a1 : Addr) (t : Nat) (s s' : Shared) : Prop where
  keep : Keep s.heap s'.heap
  gens : s'.gens = s.gens
  os : s'.os = s.os
  log : ObjIs s'.heap a0 (.bytes G.LOG)
  exp : ObjIs s'.heap a1 (.bytes G.EXP)
  ne : a0 ≠ a1
theorem call_init (w : World) (os : OsState) {A : Around} (R : Room 2 A) :
    codeK true (model Pr w) A (.call (.ref 35) ⟨[], []⟩) (fun f s' => ∃ l a0 a1 t, f = .ret (.ref l) ∧ s'.heap.IsList l #[.ref a0, .ref a1, .int 255 t] ∧ Made w a0 a1 t (S27 w os) s') (S27 w os) := by
  have X : Wo (Wj w (S27 w os).heap (mg27 w) (mb27 w) [] 2) := wo_two (base27 w os) (k27 w os) (addr27 w)
  obtain ⟨a, o, fd, hm, ho, hd, h⟩ := X.ok.fns 1 (⟨"init_tables", []⟩, initS) rfl
  have ha : a = 35 := by
    have e := addr27 w "init_tables" 35 (by decide +kernel)
    have hm' : mg27 w "init_tables" = some (.ref a) := hm
    rw [e] at hm'
    cases hm'; rfl
  subst ha
  have := h A (S27 w os) [] [] [] [] [] (fun r hp' => r = .many false [.ref 0, .ref 1, .int 255] ∧ hp' = [.bytes G.LOG, .bytes G.EXP]) R (fun _ _ e => e) ⟨rfl, by simp, fun j a o e => by simp at e⟩ (fun g x v _ hv => by simp [Wj] at hv) trivial rfl ⟨rfl, rfl, rfl⟩
  refine this.mono fun f s' hf => ?_
  obtain ⟨v, rfl, φ', hp', r, x, H, hr, rfl, rfl⟩ := hf
  obtain ⟨l, vs, rfl, hreps, hl⟩ := hr
  have hlen : vs.length = 3 := hreps.length.symm
  obtain ⟨v0, vs, rfl, hl1⟩ := len_s hlen
  obtain ⟨v1, vs, rfl, hl2⟩ := len_s hl1
  obtain ⟨v2, vs, rfl, hl3⟩ := len_s hl2
  obtain rfl := List.length_eq_zero_iff.mp hl3
  obtain ⟨⟨a0, e0, rfl⟩, ⟨a1, e1, rfl⟩, ⟨t, rfl⟩, -⟩ := hreps
  refine ⟨l, a0, a1, t, rfl, hl, x.keep, x.gens, x.os, H.at e0 rfl, H.at e1 rfl, fun e => ?_⟩
  subst e
  have := (List.getElem?_inj (List.getElem?_eq_some_iff.mp e0).1 H.nodup).mp (e0.trans e1.symm)
  omega
end Mine
end
section
open PySem PySem.W PyProof.Rows
open Sem (wp)
namespace Mine
noncomputable def mg28 (w : World) (a0 a1 : Addr) (t : Nat) : Str → Option Value := fun x => if x = "field_charac" then some (.int 255 t) else if x = "gf_exp" then some (.ref a1) else if x = "gf_log" then some (.ref a0) else mg27 w x
structure At28 (w : World) (os : OsState) (a0 a1 : Addr) (t : Nat) (s' : Shared) : Prop where
  keep : ∀ b o, b ≠ 3 → (S27 w os).heap.get? b = some o → s'.heap.get? b = some o
  ns : s'.heap.Ns mainGlobals (mg28 w a0 a1 t)
  gens : s'.gens = #[]
  os : s'.os = os
  log : ObjIs s'.heap a0 (.bytes G.LOG)
  exp : ObjIs s'.heap a1 (.bytes G.EXP)
  ne : a0 ≠ a1
theorem load_mod (x : Str) (h : (env1.scope.kind.isAnnotationScope) = false := by rfl) : loadName env1 x = loadGlobal env1 x := rfl
theorem loc_log : env1.kindOf "gf_log" = some .local := by kernel_rfl
theorem loc_exp : env1.kindOf "gf_exp" = some .local := by kernel_rfl
theorem loc_fc : env1.kindOf "field_charac" = some .local := by kernel_rfl
theorem loc_name : env1.kindOf "__name__" = some .local := by kernel_rfl
theorem objis_same {h h' : Heap} {a : Addr} {o : O} (x : ObjIs h a o) (hs : Heap.SameBut mainGlobals h h') (hn : ∃ m, h.Ns mainGlobals m) : ObjIs h' a o := by
  obtain ⟨m, hn⟩ := hn
  have hne := obj_ne_ns x hn
  induction o with
  | nums l => obtain ⟨vs, ⟨n, e⟩, i⟩ := x; exact ⟨vs, ⟨n, (hs.2 _ hne).trans e⟩, i⟩
  | bytes l => obtain ⟨b, e, r⟩ := x; exact ⟨b, (hs.2 _ hne).trans e, r⟩
theorem ex28 (w : World) (os : OsState) {A : Around} (R : Room 2 A) {Q : Flow → Shared → Prop} (h : ∀ a0 a1 t s', At28 w os a0 a1 t s' → Q .next s') : wpK true (model Pr w) A (exec st28 env1) Q (S27 w os) := by
  unfold st28
  rw [arm_exec_Assign]
  refine wpK.bind (wpK.standAt ?_)
  show wpK true (model Pr w) A (do
    let v ← eval (.Call (.Name "init_tables" ⟨215, 31, 215, 42⟩) [] [] ⟨215, 31, 215, 44⟩) env1
    let x ← swappedStores [.Tuple [.Name "gf_log" ⟨215, 0, 215, 6⟩, .Name "gf_exp" ⟨215, 8, 215, 14⟩, .Name "field_charac" ⟨215, 16, 215, 28⟩] 0 ⟨215, 0, 215, 28⟩] (.Call (.Name "init_tables" ⟨215, 31, 215, 42⟩) [] [] ⟨215, 31, 215, 44⟩) env1
    assignStores env1 v x ((assignEach [.Tuple [.Name "gf_log" ⟨215, 0, 215, 6⟩, .Name "gf_exp" ⟨215, 8, 215, 14⟩, .Name "field_charac" ⟨215, 16, 215, 28⟩] 0 ⟨215, 0, 215, 28⟩] env1).map (·.2))) _ _
  refine wpK.bind (wpK.CallName (wpK.of_any (wpAny_Name ?_ (by decide +kernel))))
  rw [load_mod]
  refine Calls.loadGlobal_global (mg := mg27 w) (ns27 w os) (addr27 w "init_tables" 35 (by decide +kernel)) ?_
  refine wpK.callWith_fn rfl rfl (by decide) (wpK.spliced_nil (wpK.evalAll_nil ⟨?_, wpK.call ?_⟩))
  · exact ⟨O27 w 35, fdOf (O27 w 35), get27 (by decide) rfl (by kernel_rfl), by kernel_rfl⟩
  refine (call_init w os R).mono fun f s1 hf => ?_
  obtain ⟨l, a0, a1, t, rfl, hl, M⟩ := hf
  refine ⟨_, rfl, ?_⟩
  show wpK true (model Pr w) A (do assign (.Tuple [.Name "gf_log" ⟨215, 0, 215, 6⟩, .Name "gf_exp" ⟨215, 8, 215, 14⟩, .Name "field_charac" ⟨215, 16, 215, 28⟩] 0 ⟨215, 0, 215, 28⟩) env1 (.ref l); Pure.pure Flow.next) _ s1
  refine wpK.bind (wpK.of_any (assign_Tuple_list R.handled hl rfl rfl fun h1 hx => ?_))
  have keep1 : Keep (S27 w os).heap h1 := fun b o e => hx b o (Nat.ne_of_lt (Heap.lt_size (M.keep b o e))) (M.keep b o e)
  have hfr : ∀ {a o}, ObjIs s1.heap a o → ObjIs h1 a o := fun {a o} x => by
    induction o with
    | nums l => obtain ⟨vs, ⟨n, e⟩, i⟩ := x; exact ⟨vs, ⟨n, hx _ _ (Nat.ne_of_lt (Heap.lt_size e)) e⟩, i⟩
    | bytes l => obtain ⟨b, e, r⟩ := x; exact ⟨b, hx _ _ (Nat.ne_of_lt (Heap.lt_size e)) e, r⟩
  have n1 : h1.Ns mainGlobals (mg27 w) := (ns27 w os).keeps keep1
  show wpAny (model Pr w) A (do
    holding [.ref a1, .int 255 t] (assign (.Name "gf_log" ⟨215, 0, 215, 6⟩) env1 (.ref a0))
    holding [.int 255 t] (assign (.Name "gf_exp" ⟨215, 8, 215, 14⟩) env1 (.ref a1))
    holding [] (assign (.Name "field_charac" ⟨215, 16, 215, 28⟩) env1 (.int 255 t))
    pure ()) _ _ _
  refine wpAny_bind (wpAny_holding (wpAny_assign_Name (wpAny_storeName_local loc_log n1 (fun h2 n2 hs2 => ?_) (by kernel_rfl))))
  refine wpAny_bind (wpAny_holding (wpAny_assign_Name (wpAny_storeName_local loc_exp n2 (fun h3 n3 hs3 => ?_) (by kernel_rfl))))
  refine wpAny_bind (wpAny_holding (wpAny_assign_Name (wpAny_storeName_local loc_fc n3 (fun h4 n4 hs4 => ?_) (by kernel_rfl))))
  refine wpAny_pure (wpK.pure (h a0 a1 t _ ⟨fun b o hb e => ?_, n4, M.gens, M.os, ?_, ?_, M.ne⟩))
  · exact (hs4.2 b hb).trans ((hs3.2 b hb).trans ((hs2.2 b hb).trans (keep1 b o e)))
  · exact objis_same (objis_same (objis_same (hfr M.log) hs2 ⟨_, n1⟩) hs3 ⟨_, n2⟩) hs4 ⟨_, n3⟩
  · exact objis_same (objis_same (objis_same (hfr M.exp) hs2 ⟨_, n1⟩) hs3 ⟨_, n2⟩) hs4 ⟨_, n3⟩
noncomputable def mg29 (w : World) (a0 a1 : Addr) (t u : Nat) : Str → Option Value := fun x => if x = "__name__" then some (.str "law_md0036_01" u) else mg28 w a0 a1 t x
structure At29 (w : World) (os : OsState) (a0 a1 : Addr) (t u : Nat) (s' : Shared) : Prop where
  keep : ∀ b o, b ≠ 3 → (S27 w os).heap.get? b = some o → s'.heap.get? b = some o
  ns : s'.heap.Ns mainGlobals (mg29 w a0 a1 t u)
  gens : s'.gens = #[]
  os : s'.os = os
  log : ObjIs s'.heap a0 (.bytes G.LOG)
  exp : ObjIs s'.heap a1 (.bytes G.EXP)
  ne : a0 ≠ a1
theorem ex29 {w : World} {os : OsState} {A : Around} {a0 a1 : Addr} {t : Nat} {s : Shared} (X : At28 w os a0 a1 t s) {Q : Flow → Shared → Prop} (h : ∀ u s', At29 w os a0 a1 t u s' → Q .next s') : wpK true (model Pr w) A (exec st29 env1) Q s := by
  unfold st29
  refine wpK.AssignName (wpK.of_any (wpAny_Constant_str (wpK.of_any (wpAny_storeName_local loc_name X.ns (fun h1 n1 hs1 => ?_) (by kernel_rfl))))) rfl
  exact h _ _ ⟨fun b o hb e => (hs1.2 b hb).trans (X.keep b o hb e), n1, X.gens, X.os, objis_same X.log hs1 ⟨_, X.ns⟩, objis_same X.exp hs1 ⟨_, X.ns⟩, X.ne⟩
noncomputable def mg30 (w : World) (a0 a1 : Addr) (t u : Nat) (a : Addr) : Str → Option Value := fun x => if x = "law" then some (.ref a) else mg29 w a0 a1 t u x
structure At30 (w : World) (os : OsState) (a0 a1 : Addr) (t u : Nat) (a c : Addr) (doc : Value) (s' : Shared) : Prop where
  keep : ∀ b o, b ≠ 3 → b ≠ 12 → (S27 w os).heap.get? b = some o → s'.heap.get? b = some o
  ns : s'.heap.Ns mainGlobals (mg30 w a0 a1 t u a)
  gens : s'.gens = #[]
  os : s'.os = os
  log : ObjIs s'.heap a0 (.bytes G.LOG)
  exp : ObjIs s'.heap a1 (.bytes G.EXP)
  ne : a0 ≠ a1
  fn : s'.heap.get? a = some { cls := .type "function", data := .func (lawRec.data (.str "law_md0036_01" u) (.ref c) doc) }
  code : s'.heap.CodeRec (.ref c) "law"
theorem lawPlain : lawRec.Plain Pr := by
  refine ⟨fun _ => rfl, ?_, by kernel_rfl, by kernel_rfl, by decide +kernel⟩
  have h : lawRec.scope.names.all (fun x => x.2 != .free) = true := by kernel_rfl
  intro x hx
  have := List.all_eq_true.mp h x hx
  simpa using this
theorem obj_keep {w : World} {os : OsState} {a0 a1 : Addr} {t u : Nat} {s : Shared} (X : At29 w os a0 a1 t u s) {a : Addr} {l : List Nat} (x : ObjIs s.heap a (.bytes l)) {h' : Heap} (keep : ∀ b o, b ≠ 12 → b ≠ mainGlobals → s.heap.get? b = some o → h'.get? b = some o) : ObjIs h' a (.bytes l) := by
  have h3 := obj_ne_ns x X.ns
  obtain ⟨b, e, r⟩ := x
  refine ⟨b, keep a _ (fun h12 => ?_) h3 e, r⟩
  subst h12
  have e2 := X.keep 12 (O27 w 12) (by decide) (get27 (by decide) rfl (by kernel_rfl))
  rw [e] at e2
  have e3 := congrArg Obj.data (Option.some.inj e2)
  have e4 : (O27 w 12).data = .fields (fldOf (O27 w 12)) := by kernel_rfl
  rw [e4] at e3
  cases e3
theorem ex30 {w : World} {os : OsState} {A : Around} {a0 a1 : Addr} {t u : Nat} {s : Shared} (X : At29 w os a0 a1 t u s) {Q : Flow → Shared → Prop} (h : ∀ a c doc s', At30 w os a0 a1 t u a c doc s' → Q .next s') : wpK true (model Pr w) A (exec lawRec.stmt env1) Q s := by
  have m27 := main27 w os
  have hM : s.heap.Main (mg29 w a0 a1 t u) 13 12 (fldOf (O27 w 12)) := by
    refine ⟨X.ns, ?_, m27.low, ?_⟩
    · obtain ⟨o, vs, file, tf, flags, tg, inF, text, tt, op, e1, r1, r2, r3, r4, r5, r6, e2, r⟩ := m27.code
      exact ⟨o, vs, file, tf, flags, tg, inF, text, tt, op, X.keep _ _ (by decide) e1, r1, r2, r3, r4, r5, r6, X.keep _ _ (by decide) e2, r⟩
    · obtain ⟨bm, o, e1, r1, r2, r3, e2, r⟩ := m27.bmod
      refine ⟨bm, o, ?_, r1, r2, r3, X.keep _ _ r2 e2, r⟩
      unfold mg29 mg28
      rw [if_neg (by decide +kernel), if_neg (by decide +kernel), if_neg (by decide +kernel), if_neg (by decide +kernel)]
      exact e1
  refine wpK.of_any (wpAny_def (prog := Pr) (F := 14) lawPlain (by kernel_rfl) hM (by kernel_rfl) fun a c' doc h' tk ha hM' hf hc keep => h a c' doc _ ⟨fun b o h3 h12 e => keep b o h12 h3 (X.keep b o h3 e), hM'.g, X.gens, X.os, ?_, ?_, X.ne, ?_, hc.2⟩)
  · exact obj_keep X X.log keep
  · exact obj_keep X X.exp keep
  · have e : (mg29 w a0 a1 t u "__name__").getD .none = .str "law_md0036_01" u := by unfold mg29; rw [if_pos rfl]; rfl
    rw [e] at hf
    exact hf
end Mine
end
section
open PySem PySem.W PyProof.Rows
open Sem (wp)
namespace Mine
noncomputable def At (w : World) (os : OsState) (s' : Shared) : Prop := ∃ a0 a1 t u a c doc, At30 w os a0 a1 t u a c doc s'
noncomputable abbrev b30 : List Stmt := sts27 ++ [st28, st29, lawRec.stmt]
noncomputable abbrev G0 : Ctx := ⟨.builtin "claim.caller" {}, none, none, [], none⟩
theorem ctxB_in (b : List Stmt) : (ctxB b).In ((callerA.mark none).under (.body b env1)) := (caller_in.enter (.body b env1) none q0 (by intro x; cases x)).in
theorem ctxB_cl (b : List Stmt) : Cl true (ctxB b) := fun _ => ⟨rfl, fun x hx => by
  have : x = (.builtin "claim.caller" {}, q0) := by simpa [ctxB, Ctx.of, Frame.where_] using hx
  subst this
  exact clean_builtin (by decide +kernel)⟩
theorem roomB (b : List Stmt) : Room 2 ((callerA.mark none).under (.body b env1)) := by
  refine ⟨?_, ?_, rfl⟩
  · show callerA.depth + (Code.body b env1).weight + 2 < recursionLimit
    have : (Code.body b env1).weight = (Code.body [] env1).weight := rfl
    rw [this]; decide +kernel
  · show callerA.units + (Code.body b env1).cUnits + 8 * 2 + 200 < cLine
    have : (Code.body b env1).cUnits = (Code.body [] env1).cUnits := rfl
    rw [this]; decide +kernel
theorem wpTop (w : World) (os : OsState) : wp (model Pr w) (ctxB b30) (execs b30 env1) (fun f _ s' => f = .next ∧ At w os s') (fun e p' s' => wp (model Pr w) (ctxB b30) (PySem.leaving env1 e) (fun _ _ _ => False) (fun _ _ _ => False) p' s') q0 (T15 w os).abs := by
  refine wp_execs_append.mpr (Sem.wp_mono _ _ _ (fun f p s h => ?_) (fun _ _ _ h => h) _ _ (wp27 w os b30))
  obtain ⟨rfl, rfl⟩ := h
  have h : wpK true (model Pr w) ((callerA.mark none).under (.body b30 env1)) (execs [st28, st29, lawRec.stmt] env1) (fun f s' => f = .next ∧ At w os s') (S27 w os) := by
    refine wpK.execs_cons (ex28 w os (roomB _) fun a0 a1 t s1 X1 => ?_)
    refine wpK.execs_cons (ex29 X1 fun u s2 X2 => ?_)
    refine wpK.execs_cons (ex30 X2 fun a c doc s3 X3 => ?_)
    exact wpK.execs_nil ⟨rfl, a0, a1, t, u, a, c, doc, X3⟩
  exact Sem.wp_mono _ _ _ (fun _ _ _ h => h) (fun _ _ _ h => h.elim) _ _ (h (ctxB b30) p (ctxB_in _) (ctxB_cl _))
theorem den_body : denote table (.body b30 env1) = (execs b30 env1).wrap doneF (leaveH env1) id id := by
  rw [body_wrap]
  have : blockStart b30 env1 = Pure.pure () := by kernel_rfl
  rw [this]; rfl
theorem runsTop (w : World) (os : OsState) : ∃ s', Runs (model Pr w) ⟨.body b30 env1, none, none, [], none⟩ q0 (denote table (.body b30 env1)) [topFrame q0] (T15 w os).abs (.ret (.ok (.ret .none))) s' ∧ At w os s' := by
  rw [den_body]
  obtain ⟨r, s', hr, hR⟩ := (Sem.wp_iff_runs (model Pr w) (ctxB b30) _ (fun r s' => match r with | .ok f => f = .next ∧ At w os s' | .error _ => False) q0 (T15 w os).abs).mp (wp_rest.mpr (wpTop w os))
  induction r with
  | error e => exact hR.elim
  | ok f => exact ⟨s', .segRet hr .done, hR.2⟩
end Mine
end
section
open PySem PySem.W PyProof.Rows
open Sem (wp)
namespace Mine
theorem sched_of_runs {p : Program} {w : World} {c : Code} {pos : Pos} {t : Sem Fin} {st : List PySem.Frame} {s s' : Shared} {f : Flow} (h : Runs (model p w) ⟨c, none, none, [], none⟩ pos t st s (.ret (.ok f)) s') (hg : s'.gens = #[]) (hz : s.asleep) :
    ∃ m t', schedN (denote table) p w m (.single s ⟨t, c, pos, st⟩) = .running (.single s' t') ∧ through t' = true ∧ s'.heap.life = s.heap.life := by
  have hl : leftWithCleanup s'.gens = false := by rw [hg]; simp [leftWithCleanup]
  obtain ⟨N, hN⟩ := halts_iff.mpr ⟨h, hl⟩
  obtain ⟨s2, hr, hf, hc⟩ := runNI_real (denote table) p w hN (outcomeOf_ends (.ok f))
  have hs2 : s2 = s' := Shared.eq_of_forget_eq hf hg
  subst hs2
  have hne : ∀ k s₂, runN (denote table) p w k s ⟨t, c, pos, st⟩ ≠ .halted (.unsupported "lifetime:generator-with-cleanup-left-suspended") s₂ := by
    intro k s₂ hk
    have a := runN_mono (denote table) p w N k s ⟨t, c, pos, st⟩ _ s2 hr
    have b := runN_mono (denote table) p w k N s ⟨t, c, pos, st⟩ _ s₂ hk
    rw [Nat.add_comm, b] at a
    injection a with a1 _
    cases a1
  obtain ⟨n, t', c', p', pre', hn, ht', hpre⟩ := (runs_reach h [] ⟨rfl, rfl, rfl, rfl⟩).runN
  rw [List.append_nil] at hn
  subst ht' hpre
  obtain ⟨σ, tau, hrun, e1, e2⟩ := runNI_running_real hn
  have hσ : σ = s2 := Shared.eq_of_forget_eq e1 hg
  subst hσ
  refine ⟨n, tau, ?_, ?_, runN_life _ _ _ hr⟩
  · have hrun' : runN (denote table) p w n s ⟨t, c, pos, st⟩ = .running σ tau := hrun
    rw [schedN_eq_runN (denote table) p w s ⟨t, c, pos, st⟩ hz ⟨hc, hne⟩ n, hrun']; rfl
  · obtain ⟨cur, code, pos', stack⟩ := tau
    simp only [Thread.forget, Thread.mk.injEq] at e2
    obtain ⟨q1, q2, q3, q4⟩ := e2
    have hst : stack = [] := by
      induction stack with
      | nil => rfl
      | cons x xs =>
        have := congrArg List.length q4
        unfold forgetAll at this
        rw [List.length_map, List.length_map] at this
        cases this
    subst hst q1
    rfl
theorem sched_add {p : Program} {w : World} : ∀ {m k : Nat} {c c1 : Config}, schedN (denote table) p w m c = .running c1 → schedN (denote table) p w (m + k) c = schedN (denote table) p w k c1
  | 0, k, c, c1, h => by
    have e : SRun.running c = .running c1 := h
    injection e with e
    subst e
    rw [Nat.zero_add]
  | m + 1, k, c, c1, h => by
    rw [show m + 1 + k = m + k + 1 by omega]
    simp only [schedN] at h ⊢
    induction hs : sstep (denote table) p w c with
    | go c' => rw [hs] at h; exact sched_add h
    | halt o s' => rw [hs] at h; cases h
theorem topGo_sched {p : Program} {w : World} {n₀ : Nat} {ann : Option Value} : ∀ (n : Nat) (s s' : Shared) (t t' : Thread), s.asleep → topGo table p w n₀ ann n s t = some (s', t') →
    schedN (denote table) p w n (.single s t) = .running (.single s' t') ∧ s'.heap.life = s.heap.life
  | 0, s, s', t, t', _, h => by
    obtain ⟨rfl, rfl⟩ : s = s' ∧ t = t' := by simpa [topGo] using h
    exact ⟨rfl, rfl⟩
  | n + 1, s, s', t, t', hr, h => by
    unfold topGo at h
    induction hth : through t with
    | true => rw [hth] at h; cases h
    | false =>
    rw [hth] at h
    induction hk : stepOk n₀ ann t with
    | false => rw [hk] at h; cases h
    | true =>
      rw [hk] at h
      induction hs : step (denote table) p w s t with
      | halt o s₂ => rw [hs] at h; cases h
      | go s₂ t₂ =>
        have h' : topGo table p w n₀ ann n s₂ t₂ = some (s', t') := by
          rw [hs] at h; exact h
        obtain ⟨hc, _⟩ := Bool.and_eq_true_iff.mp hk
        have hl := step_life (denote table) p w s s₂ t t₂ hs
        obtain ⟨a, b⟩ := topGo_sched n s₂ s' t₂ t' (Shared.asleep_of_life hl hr) h'
        have e : sstep (denote table) p w (.single s t) = .go (.single s₂ t₂) := by
          rcases sstep_single (denote table) p w s t hc hr with e | e
          · rw [e, hs]; rfl
          · rw [hs] at e; cases e
        exact ⟨by simp only [schedN, e]; exact a, b.trans hl⟩
theorem topRuns (w : World) (os : OsState) (hz : (B0 w os).asleep) : ∃ s₁, (∃ n t, schedN (denote table) Pr w n (.single (B0 w os) (topStub Pr)) = .running (.single s₁ t) ∧ through t = true) ∧ s₁.heap.life = (B0 w os).heap.life ∧ At w os s₁ := by
  have h1 := pre_run w os b30
  rw [← table_eq_tree] at h1
  obtain ⟨a1, a2⟩ := topGo_sched _ _ _ _ _ hz h1
  obtain ⟨s', hr, hA⟩ := runsTop w os
  obtain ⟨_, _, _, _, _, _, _, X⟩ := id hA
  obtain ⟨m, t', hm, ht, hl⟩ := sched_of_runs hr X.gens (Shared.asleep_of_life a2 hz)
  refine ⟨s', ⟨12 + m, t', ?_, ht⟩, hl.trans a2, hA⟩
  have e : topStub Pr = stubOf b30 := by
    show stubOf (behindTheImports Pr) = stubOf b30
    rw [body_eq]
  rw [e, sched_add a1]
  exact hm
end Mine
end
section
open PySem PySem.W PyProof.Rows
namespace Mine
theorem prom : PySem.Challenge.rw_md0036_01.row.toRowW.promised := ⟨[.list []], by kernel_rfl, by kernel_rfl⟩
theorem opens : opensWell Pr = true := by kernel_rfl
theorem bare : PySem.Challenge.rw_md0036_01.row.toRowW.prog.bare := ⟨rfl, rfl, rfl, rfl, rfl, by kernel_rfl⟩
theorem said : PySem.Challenge.rw_md0036_01.wellSaid = true := by kernel_rfl
end Mine
end
section
open PySem PySem.W PyProof.Rows
open Sem (wp)
namespace Mine
noncomputable abbrev rowL : RowW := PySem.Challenge.rw_md0036_01.row.toRowW
theorem all_ints : ∀ (ds : List WData), WShape.hasItems [] ds .int = true → ∃ xs : List Int, ds = xs.map .int
  | [], _ => ⟨[], rfl⟩
  | d :: ds, h => by
    simp only [WShape.hasItems, Bool.and_eq_true] at h
    obtain ⟨xs, rfl⟩ := all_ints ds h.2
    obtain ⟨i, rfl⟩ := hasW_int h.1
    exact ⟨i :: xs, rfl⟩
theorem args_inv {args : List WData} (h : rowL.claim.pre args = true) : ∃ xs : List Int, args = [.list (xs.map .int)] ∧ xs.length ≤ 63 := by
  obtain ⟨h1, h2⟩ := pre_splitW h
  obtain ⟨d, r, rfl, hd, hr⟩ := hasAllW_cons h1
  have : r = [] := by
    induction r with
    | nil => rfl
    | cons _ _ => simp [WShape.hasAll] at hr
  subst this
  obtain ⟨ds, rfl, hds⟩ := hasW_list hd
  obtain ⟨xs, rfl⟩ := all_ints ds hds
  refine ⟨xs, rfl, ?_⟩
  have h3 : (WTm.and (.not (.lt (.lit (.int 63)) (.len (.arg 0)))) (.lit (.bool true))).holds [] { args := [.list (xs.map .int)] } = true := h2
  simp [WTm.holds, WTm.value] at h3
  have e : less? (WData.int 63) (WData.int (xs.length : Int)) = some (decide ((63 : Int) < (xs.length : Int))) := rfl
  rw [e] at h3
  by_cases hc : (63 : Int) < (xs.length : Int)
  · simp [hc] at h3
  · omega
section
variable {w : World} {os : OsState} {a0 a1 : Addr} {t u : Nat} {a c : Addr} {doc : Value} {s : Shared}
noncomputable def newNames : List Str := ["law", "__name__", "field_charac", "gf_exp", "gf_log"]
theorem mg30_old {x : Str} (h : x ∉ newNames) : mg30 w a0 a1 t u a x = mg27 w x := by
  simp only [newNames, List.mem_cons, List.not_mem_nil, or_false, not_or] at h
  unfold mg30 mg29 mg28
  rw [if_neg h.1, if_neg h.2.1, if_neg h.2.2.1, if_neg h.2.2.2.1, if_neg h.2.2.2.2]
theorem bi_new : ∀ b x, x ∈ BI.names b → x ∉ newNames := by
  intro b x hx
  induction b with
  | len => obtain rfl : x = "len" := by simpa [BI.names] using hx
           decide +kernel
  | max => obtain rfl : x = "max" := by simpa [BI.names] using hx
           decide +kernel
  | lst => obtain rfl : x = "list" := by simpa [BI.names] using hx
           decide +kernel
  | sorted => obtain rfl : x = "sorted" := by simpa [BI.names] using hx
              decide +kernel
  | int => obtain rfl : x = "int" := by simpa [BI.names] using hx
           decide +kernel
  | bytearray =>
    have : x = "bytearray" ∨ x = "_bytearray" := by simpa [BI.names] using hx
    rcases this with rfl | rfl <;> decide +kernel
theorem At30.base (X : At30 w os a0 a1 t u a c doc s) : Base s.heap (mg30 w a0 a1 t u a) (mb27 w) := by
  refine ⟨X.ns, ?_, ?_, fun b x hx => ?_, fun x hx => ?_, fun x hx => ?_⟩
  · exact (nb27 w os).at fun o e => X.keep _ o (by decide) (by decide) e
  · obtain ⟨mc, hn, hl⟩ := lim27 w os
    exact ⟨mc, hn.at fun o e => X.keep _ o (by decide) (by decide) e, hl⟩
  · rw [mg30_old (bi_new b x hx)]; exact bi27 w b x hx
  · have : x = "range" ∨ x = "xrange" := by simpa [rangeNames] using hx
    rw [mg30_old (by rcases this with rfl | rfl <;> decide +kernel)]; exact rng27 w x hx
  · obtain rfl : x = "enumerate" := by simpa [enumNames] using hx
    rw [mg30_old (by decide +kernel)]; exact enm27 w _ hx
theorem addr_new : ∀ x n, (x, n) ∈ addrs → x ∉ newNames := by
  have h : addrs.all (fun p => !newNames.contains p.1) = true := by decide +kernel
  intro x n hx
  have := List.all_eq_true.mp h (x, n) hx
  simpa using this
noncomputable abbrev WL (w : World) (h : Heap) (a0 a1 : Addr) (t u : Nat) (a : Addr) : Wld := Wj w h (mg30 w a0 a1 t u a) (mb27 w) GS 23
theorem At30.wo (X : At30 w os a0 a1 t u a c doc s) : Wo (WL w s.heap a0 a1 t u a) :=
  wo_all X.base (fun os' b o h3 h12 e => X.keep b o h3 h12 (by rw [heap27 w os os']; exact e)) (fun x n hx => by rw [mg30_old (addr_new x n hx)]; exact addr27 w x n hx) rfl
theorem bind_law {pm cd doc : Value} {s : Shared} (v0 : Value) : BindsTo s (lawRec.data pm cd doc) ⟨[v0], []⟩ [("script", v0)] := BindsTo.of_eq (by kernel_rfl)
theorem lawS.len {us hp Q} (h : lawS us hp Q) : us.length = 1 := by obtain ⟨⟩ := h; exact congrArg List.length ‹us = _›
theorem At30.law (X : At30 w os a0 a1 t u a c doc s) : FnOK (WL w s.heap a0 a1 t u a) true 24 ⟨"law", []⟩ lawS := by
  have Y := X.wo
  refine fn_okV Y.ok (T := tx "law" ns_law) (full := fun us => us) (a := a) (fd := lawRec.data (.str "law_md0036_01" u) (.ref c) doc) ?_ ⟨⟨_, X.fn, rfl⟩, X.code, rfl, rfl, rfl, rfl, rfl⟩ Y.cf.symm Y.gn.symm (by decide +kernel) is_law (show okSL pcs true b_law = true by decide +kernel) ?_ ?_
  · show mg30 w a0 a1 t u a "law" = some (.ref a)
    unfold mg30; rw [if_pos rfl]
  · exact bindP1 ["script"] _ rfl (by decide +kernel) rfl (fun _ _ _ h => lawS.len h) fun s φ u0 v0 K r0 => ⟨[v0], rfl, bind_law v0, ⟨r0, trivial⟩⟩
  · intro us hp Q h
    exact tr_law (Gf := (WL w s.heap a0 a1 t u a).G) rfl rfl rfl h
theorem mg30_log : mg30 w a0 a1 t u a "gf_log" = some (.ref a0) := by
  unfold mg30 mg29 mg28
  rw [if_neg (by decide +kernel), if_neg (by decide +kernel), if_neg (by decide +kernel), if_neg (by decide +kernel), if_pos rfl]
theorem mg30_exp : mg30 w a0 a1 t u a "gf_exp" = some (.ref a1) := by
  unfold mg30 mg29 mg28
  rw [if_neg (by decide +kernel), if_neg (by decide +kernel), if_neg (by decide +kernel), if_pos rfl]
theorem mg30_fc : mg30 w a0 a1 t u a "field_charac" = some (.int 255 t) := by
  unfold mg30 mg29 mg28
  rw [if_neg (by decide +kernel), if_neg (by decide +kernel), if_pos rfl]
theorem At30.gv (X : At30 w os a0 a1 t u a c doc s) (φ : List Addr) : (WL w s.heap a0 a1 t u a).GV ([a0, a1] ++ φ) := by
  intro g x v h1 h2
  have h1' : gnames[g]? = some x := h1
  have h2' : GS[g]? = some v := h2
  rcases g with _ | _ | _ | g
  · obtain rfl := Option.some.inj h1'
    obtain rfl := Option.some.inj h2'
    exact ⟨.ref a0, mg30_log (w := w) (a0 := a0) (a1 := a1) (t := t) (u := u) (a := a), a0, rfl, rfl⟩
  · obtain rfl := Option.some.inj h1'
    obtain rfl := Option.some.inj h2'
    exact ⟨.ref a1, mg30_exp (w := w) (a0 := a0) (a1 := a1) (t := t) (u := u) (a := a), a1, rfl, rfl⟩
  · obtain rfl := Option.some.inj h1'
    obtain rfl := Option.some.inj h2'
    exact ⟨.int 255 t, mg30_fc (w := w) (a0 := a0) (a1 := a1) (t := t) (u := u) (a := a), t, rfl⟩
  · exact nomatch h1'
theorem room_caller : Room 24 callerA := ⟨by decide +kernel, by decide +kernel, rfl⟩
theorem At30.call (X : At30 w os a0 a1 t u a c doc s) {s1 : Shared} {L : Addr} {xs : List Int} {vs : List Value} (hk : Keep s.heap s1.heap) (hL : s1.heap.PlainList L vs.toArray) (hi : IntsAre vs xs) (hx : xs.length ≤ 63) (hne : s.heap.get? L = none) :
    codeK true (model Pr w) callerA (.call (.ref a) ⟨[.ref L], []⟩) (fun f s' => f = .ret (.bool true) ∧ Keep s1.heap s'.heap ∧ s'.gens = s1.gens ∧ s'.os = s1.os) s1 := by
  obtain ⟨a', o, fd, hm, ho, hd, h⟩ := X.law
  have ha : a' = a := by
    have e : mg30 w a0 a1 t u a "law" = some (.ref a) := by unfold mg30; rw [if_pos rfl]
    have hm' : mg30 w a0 a1 t u a "law" = some (.ref a') := hm
    rw [e] at hm'
    cases hm'; rfl
  subst ha
  have n0 : a0 ≠ L := fun e => by
    subst e
    obtain ⟨ob, e⟩ := X.log.there
    rw [hne] at e; cases e
  have n1 : a1 ≠ L := fun e => by
    subst e
    obtain ⟨ob, e⟩ := X.exp.there
    rw [hne] at e; cases e
  have H : HeapRep [a0, a1, L] [.bytes G.LOG, .bytes G.EXP, .nums xs] s1.heap := by
    refine ⟨rfl, by simp [X.ne, n0, n1], fun j b ob h1 h2 => ?_⟩
    match j, h1, h2 with
    | 0, h1, h2 => cases h1; cases h2; exact X.log.mono hk
    | 1, h1, h2 => cases h1; cases h2; exact X.exp.mono hk
    | 2, h1, h2 => cases h1; cases h2; exact ⟨vs, hL, hi⟩
    | j + 3, h1, _ => simp at h1
  have := h callerA s1 [a0, a1, L] [.bytes G.LOG, .bytes G.EXP, .nums xs] [.ref 2] [.ref L] [] (fun r _ => r = .one (.bool true)) room_caller hk H (X.gv [L]) ⟨⟨L, rfl, rfl⟩, trivial⟩ rfl ⟨2, xs, rfl, hx, rfl, ⟨rfl, rfl⟩, rfl⟩
  refine this.mono fun f s' hf => ?_
  obtain ⟨v, rfl, φ', hp', r, x, H', hr, rfl⟩ := hf
  have hv : v = .bool true := hr
  subst hv
  exact ⟨rfl, x.keep, x.gens, x.os⟩
end
end Mine
end
section
open PySem PySem.W PyProof.Rows
open Sem (wp)
namespace Mine
noncomputable abbrev mods0 : List Str := importedModules Pr.main.body
theorem acc27 (w : World) (os : OsState) : (S27 w os).heap.accountedOkI mods0 = true := by kernel_rfl
theorem sta27 (w : World) (os : OsState) : staticsOk mods0 (B0 w os).heap (S27 w os).heap = true := by kernel_rfl
theorem blt27 (w : World) (os : OsState) : (S27 w os).heap.bltView = bltViewBooted := by kernel_rfl
theorem bnd27 (w : World) (os : OsState) : namesBound Pr (S27 w os).heap = true := by kernel_rfl
theorem lad27 (w : World) (os : OsState) : laidKept (B0 w os).heap (S27 w os).heap = true := by kernel_rfl
theorem size0 (w : World) (os : OsState) : (B0 w os).heap.objs.size = 11 := by kernel_rfl
theorem isn27 (w : World) (os : OsState) : (S27 w os).heap.isNs builtinsNs = true := by kernel_rfl
theorem new_bound : ∀ x ∈ newNames, x ∈ startupNames ∨ x ∈ Pr.boundNames := by
  have h : newNames.all (fun x => startupNames.contains x || Pr.boundNames.contains x) = true := by kernel_rfl
  intro x hx
  have := List.all_eq_true.mp h x hx
  simpa only [Bool.or_eq_true, List.contains_iff_mem] using this
theorem laid_new : ∀ x ∈ laidNames, x ∉ newNames := by
  have h : laidNames.all (fun x => !newNames.contains x) = true := by kernel_rfl
  intro x hx
  have := List.all_eq_true.mp h x hx
  simpa using this
theorem boot_kept (w : World) (os : OsState) {b : Addr} {o : Obj} (e : (B0 w os).heap.get? b = some o) (h2 : b ≠ 2) (h3 : b ≠ 3) : (S27 w os).heap.get? b = some o := by
  have hb := Heap.lt_size e
  rw [size0] at hb
  match b, hb with
  | 0, _ => rw [← e]; kernel_rfl
  | 1, _ => rw [← e]; kernel_rfl
  | 2, _ => exact absurd rfl h2
  | 3, _ => exact absurd rfl h3
  | 4, _ => rw [← e]; kernel_rfl
  | 5, _ => rw [← e]; kernel_rfl
  | 6, _ => rw [← e]; kernel_rfl
  | 7, _ => rw [← e]; kernel_rfl
  | 8, _ => rw [← e]; kernel_rfl
  | 9, _ => rw [← e]; kernel_rfl
  | 10, _ => rw [← e]; kernel_rfl
  | n + 11, h => exact absurd h (Nat.not_lt_of_ge (Nat.le_add_left 11 n))
section
variable {w : World} {os : OsState} {a0 a1 : Addr} {t u : Nat} {a c : Addr} {doc : Value} {s : Shared}
theorem At30.same (X : At30 w os a0 a1 t u a c doc s) {b : Addr} (h3 : b ≠ 3) (h12 : b ≠ 12) {o : Obj} (e : (S27 w os).heap.get? b = some o) : s.heap.get? b = (S27 w os).heap.get? b := by rw [e]; exact X.keep b o h3 h12 e
theorem At30.static (X : At30 w os a0 a1 t u a c doc s) : staticOf s.heap = staticOf (S27 w os).heap := by
  have e : s.heap.get? cStatics = (S27 w os).heap.get? cStatics := X.same (by decide) (by decide) (get27 (by decide) rfl (by kernel_rfl))
  funext k
  unfold staticOf; rw [e]
theorem At30.builtin (X : At30 w os a0 a1 t u a c doc s) : builtinOf s.heap = builtinOf (S27 w os).heap := by
  have e : s.heap.get? builtinsNs = (S27 w os).heap.get? builtinsNs := X.same (by decide) (by decide) (get27 (by decide) rfl (by kernel_rfl))
  funext k
  unfold builtinOf; rw [e]
theorem At30.global (X : At30 w os a0 a1 t u a c doc s) (x : Str) : globalOf s.heap x = mg30 w a0 a1 t u a x := Claim2Try.globalOf_of_ns X.ns x
theorem At30.topRan (X : At30 w os a0 a1 t u a c doc s) (hr : ∃ n t, schedN (denote table) Pr w n (.single (B0 w os) (topStub Pr)) = .running (.single s t) ∧ through t = true) (hl : s.heap.life = (B0 w os).heap.life) : TopRan Pr w (B0 w os) s := by
  refine ⟨hr, hl, Shared.rest_eq X.os, fun b o e hn => ?_, ?_, ?_, ?_, ?_, ?_, ?_, fun x v hx => ?_, fun x hx => ?_⟩
  · have h2 : b ≠ 2 := fun h => hn (.inr (.inl h))
    have h3 : b ≠ 3 := fun h => hn (.inl h)
    have hb := Heap.lt_size e
    rw [size0] at hb
    exact X.keep b o h3 (fun h => by subst h; exact absurd hb (by decide)) (boot_kept w os e h2 h3)
  · have h := Heap.accountedI_of_ok (acc27 w os)
    unfold staticsAccountedI at h ⊢
    rw [X.static]; exact h
  · have h := statics_of_ok (sta27 w os)
    unfold staticsBehindTheTop at h ⊢
    rw [X.static]; exact h
  · obtain ⟨o, es, ep, e, d, k, _⟩ := X.ns
    exact ⟨o, es, ep, e, d, k⟩
  · intro x hx
    rw [X.builtin]
    exact (Pin.builtinOf_eq (isn27 w os) x).trans (Heap.of_bltView (isn27 w os) (blt27 w os) x hx)
  · refine ⟨4, O27 w 4, ?_, X.keep 4 _ (by decide) (by decide) (get27 (by decide) rfl (by kernel_rfl)), by kernel_rfl, by kernel_rfl⟩
    rw [X.global, mg30_old (by decide +kernel)]
    kernel_rfl
  · intro g hg
    rw [X.gens] at hg
    simp at hg
  · rw [X.global] at hx
    by_cases hnew : x ∈ newNames
    · exact new_bound x hnew
    · rw [mg30_old hnew] at hx
      refine names_of_bound (bnd27 w os) x v ?_
      rw [Claim2Try.globalOf_of_ns (ns27 w os)]; exact hx
  · rw [X.global, mg30_old (laid_new x hx), ← laid_of_kept (lad27 w os) x hx, Claim2Try.globalOf_of_ns (ns27 w os)]
theorem At30.theDef (X : At30 w os a0 a1 t u a c doc s) : isTheDefsW Pr s.heap "law" := by
  refine ⟨a, _, lawRec.data (.str "law_md0036_01" u) (.ref c) doc, lawRec.params, lawRec.body, lawRec.scope, ?_, X.fn, rfl, by kernel_rfl, rfl, rfl, rfl, rfl, rfl, rfl, rfl, rfl, .inl ⟨by kernel_rfl, rfl⟩, [], by kernel_rfl, .inl ⟨rfl, rfl⟩⟩
  rw [X.global]
  unfold mg30; rw [if_pos rfl]
theorem ints_well {P : Params} {h : Heap} : ∀ {vs : List Value} {xs : List Int}, WellAll P h vs (xs.map .int) → IntsAre vs xs
  | vs, [], W => by
    cases W
    exact .nil
  | vs, x :: xs, W => by
    cases W with
    | cons w1 w2 =>
      cases w1
      exact .cons _ _ (ints_well w2)
theorem post_ok (args : List WData) : rowL.claim.post args (.bool true) args = true := by
  show (WShape.has [] (.bool true) .bool && (WTm.eq .res (.lit (.bool true))).holds [] { args := args, res := some (.bool true), after := args }) = true
  first | kernel_rfl | simp [WShape.has, WShape.arms, WTm.holds, WTm.value]
theorem well_list {P : Params} {h : Heap} {vs : List Value} {xs : List Int} (hw : WellAll P h vs [.list (xs.map .int)]) : ∃ L ws, vs = [.ref L] ∧ h.get? L = some { cls := .type "list", data := .seq ws.toArray } ∧ IntsAre ws xs := by
  cases hw with
  | cons w1 w2 =>
    cases w2
    cases w1 with
    | list h1 h2 => exact ⟨_, _, rfl, h1, ints_well h2⟩
theorem reads_one {R : _} {cl : _} {h : Heap} {L : Addr} {d : List WData} {as : List Addr} (hrd : ReadsAllW R cl h [.ref L] [.list d] as) : L ∈ as := by
  cases hrd with
  | cons r1 r2 =>
    cases r1
    simp
theorem At30.callFrom (X : At30 w os a0 a1 t u a c doc s) (hz : s.asleep) {free : Addr → Prop} {gens : Prop} {kept : Heap → Prop} (hkept : ∀ h', kept h') : rowL.claim.CallFrom (callStub "law") w free gens kept s := by
  intro args hpre hlay ord hord
  obtain ⟨xs, rfl, hx⟩ := args_inv hpre
  refine bc fun no => ?_
  obtain ⟨⟨vs, s₁⟩, hlaid⟩ := Option.isSome_iff_exists.mp (layAllW_isSome (R := rowL.records) (cl := classAt s.heap) (P := w.params) (ord := ord) (fun c hc => (nomatch hc)) [.list (xs.map .int)] rowL.args s (pre_splitW hpre).1)
  have keeps := layAllW_keeps _ _ _ hlaid
  have hal := layAllW_rest _ _ _ hlaid
  obtain ⟨as, hrd, hin, hold⟩ := reads_layAllW hord _ _ _ hlaid hlay s₁.heap (fun _ _ e => e)
  have hw := well_layAllW hord _ s _ hlaid s₁.heap (fun _ _ e => e)
  have hgens : s₁.gens = #[] := hal.1.trans X.gens
  obtain ⟨L, ws, rfl, hget, hints⟩ := well_list hw
  have hne : s.heap.get? L = none := fresh_of (hin.2.2 L (reads_one hrd)).1
  have hlaw : mg30 w a0 a1 t u a "law" = some (.ref a) := by unfold mg30; rw [if_pos rfl]
  have hK : wpK true (model Pr w) callerA (callStub "law" [.ref L]).cur (fun fin s' => fin = .done (.ret (.bool true)) ∧ Keep s₁.heap s'.heap ∧ s'.gens = s₁.gens ∧ s'.os = s₁.os) s₁ := by
    show wpK true (model Pr w) callerA (do match ← nsGet mainNs "law" with
      | some f => do ret (← PySem.call f [.ref L])
      | none => unsupported "claim.caller:no-such-global") _ s₁
    refine wpK.bind (wpK.of_any (wpAny_nsGet (X.ns.keeps keeps) ?_))
    rw [hlaw]
    refine wpK.bind (wpK.call ((X.call keeps ⟨_, hget⟩ hints hx hne).mono fun f s' h => ?_))
    obtain ⟨rfl, h1, h2, h3⟩ := h
    exact ⟨_, rfl, wpK.pure ⟨rfl, h1, h2, h3⟩⟩
  have hcl : Cl true G0 := fun _ => ⟨clean_builtin (by decide +kernel), fun x hx => by cases hx⟩
  obtain ⟨n, r, s', s'', hs, hn, hfo, hR⟩ := wp_halts_full (M := model Pr w) (c := .builtin "claim.caller" {}) (t := (callStub "law" [.ref L]).cur) (p := default) (s := s₁)
    (R := fun r s' => r = .ok (.ret (.bool true)) ∧ Keep s₁.heap s'.heap ∧ s'.gens = #[] ∧ s'.os = s₁.os)
    (Shared.asleep_of_life hal.2.2.2 hz)
    (Sem.wp_mono _ _ _ (fun fin p s' h => by
      obtain ⟨rfl, h1, h2, h3⟩ := h
      exact ⟨⟨rfl, h1, h2.trans hgens, h3⟩, by rw [h2.trans hgens]; simp [leftWithCleanup]⟩) (fun _ _ _ h => h.elim) _ _ (hK G0 default caller_in hcl))
  obtain ⟨rfl, hkp, hg', hos⟩ := hR
  have hss : s'' = s' := Shared.eq_of_forget_eq hfo hg'
  subst hss
  have g : GoodW rowL.claim (classAt s.heap) (ExcName.means s.heap) [.list (xs.map .int)] s₁ (.ok (.ret (.bool true))) s'' :=
    ⟨.inl ⟨.bool true, .bool true, [], rfl, fun _ => rfl, .bool true, post_ok _, fun _ => ⟨by simp, fun a ha => by cases ha⟩⟩, hkp, hos, hg'⟩
  have hi : ∀ x y, rowL.claim.ident x y = true := ident_freeW (r := rowL) rfl rfl rfl
  obtain ⟨hcase, hos', _⟩ := GoodW.ends (c := rowL.claim) rfl hi hord hlaid hlay g
  have hlife : s''.heap.life = s.heap.life := (runN_life _ _ _ hn).trans hal.2.2.2
  refine no ⟨_, s₁, hlaid, n, _, s'', hs, ?_, (fun _ i x hx => by rw [X.gens] at hx; simp at hx), hkept _, by rw [hlife], Shared.rest_eq hos'⟩
  rcases hcase with ⟨v, e, d1, d2, d3, d4, d5⟩ | ⟨e, ob, cls, e', d1, d2, d3, d4, d5⟩
  · cases e
    exact .inl ⟨_, rfl, d1, d2, d3, fun b o y _ => d4 b o y, d5⟩
  · cases e'
end
theorem boot_state {w : World} {s₀ : Shared} (h : (s₀.heap, s₀.gens, s₀.drawn, s₀.toks) = (boot_heap w.params, Array.mk [], boot_drawn, boot_toks)) : s₀ = B0 w s₀.os := by
  obtain ⟨h1, g, d, t, os⟩ := s₀
  simp only [Prod.mk.injEq] at h
  obtain ⟨rfl, rfl, rfl, rfl⟩ := h
  rfl
theorem holds : rowL.claim.HoldsOpenBy (callStub "law") ["law"] PySem.Challenge.rw_md0036_01.row.keeps false := by
  refine ⟨⟨bare, opens, rfl⟩, prom.witness, fun w => ?_⟩
  have hb := boot_open (p := Pr) (N := 600) (by rfl) (by decide) (fun s => rfl) w
  rw [← table_eq_tree] at hb
  obtain ⟨s₀, h2, hv⟩ := Option.map_eq_some_iff.mp hb
  obtain ⟨s, h4, h5⟩ := Option.bind_eq_some_iff.mp h2
  have A := AfterImport.of_importEnds h4
  refine ⟨⟨s, A⟩, fun s' hs' => ?_⟩
  obtain rfl : s' = s := AfterImport.unique hs' A
  have z : s₀.asleep := Shared.asleep_of_life (fence_lifeW h5) A.life
  have e0 := boot_state hv
  refine ⟨s₀, h5, by rw [e0]; rfl, ?_⟩
  generalize s₀.os = os at e0
  subst e0
  obtain ⟨s₁, hr, hl, a0, a1, t, u, a, c, doc, X⟩ := topRuns w os z
  refine ⟨s₁, X.topRan hr hl, fun n hn => ?_, fun x hx => (nomatch hx), fun x hx => (nomatch hx), X.callFrom (Shared.asleep_of_life hl z) fun h' q => (by cases q)⟩
  have : n = "law" := by simpa using hn
  subst this
  exact X.theDef
end Mine
end
open PySem PySem.W PyProof.Rows
theorem PySem.Challenge.cw_md0036_01_holds : PySem.Challenge.rw_md0036_01.Holds := by
  refine holds_law Mine.said fun said => ?_
  exact ⟨by assumption, Mine.prom, Mine.holds⟩
