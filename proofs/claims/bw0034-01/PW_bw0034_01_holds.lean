import PyProof.Rows.All
import Wide.All
import OpenK.AllK
import Wide.FinOn
import PySem.Challenge.RW_bw0034_01
set_option Elab.async false
namespace BW
section
open PySem PySem.W PyProof.Rows PySem.Calls
set_option maxRecDepth 100000 in
set_option maxHeartbeats 8000000 in
open_top hd for PySem.Challenge.rw_bw0034_01
end
section
open PySem PySem.W PySem.Calls PyProof.Rows
/-- data -/
inductive D where
  | none | bool (b : Bool) | int (i : Int) | str (s : Str) | tup (l : List D) | list (l : List D)

abbrev Ext (h h' : Heap) : Prop := ∀ b o, h.get? b = some o → h'.get? b = some o

mutual
def Rep (h : Heap) : D → Value → Prop
  | .none, v => v = .none
  | .bool b, v => v = .bool b
  | .int i, v => ∃ t, v = .int i t
  | .str x, v => ∃ t, v = .str x t
  | .tup l, v => ∃ a vs, v = .ref a ∧ h.IsTuple a vs.toArray ∧ Reps h l vs
  | .list l, v => ∃ a vs, v = .ref a ∧ h.IsList a vs.toArray ∧ Reps h l vs
def Reps (h : Heap) : List D → List Value → Prop
  | [], vs => vs = []
  | d :: r, vs => ∃ v t, vs = v :: t ∧ Rep h d v ∧ Reps h r t
end

-- no lists within
mutual
def D.flat : D → Bool
  | .none => true | .bool _ => true | .int _ => true | .str _ => true
  | .tup l => D.flats l
  | .list _ => false
def D.flats : List D → Bool
  | [] => true
  | d :: r => d.flat && D.flats r
end

-- ints and tuples of them, of a bounded depth
def D.ptn : Nat → D → Bool
  | _, .int _ => true
  | n + 1, .tup l => l.all (D.ptn n)
  | _, _ => false
def D.pts (l : List D) : Bool := l.all (D.ptn 3)

/-- what keeps a value: tuples and lists stand as they stood -/
structure KeepSeq (h h' : Heap) : Prop where
  t : ∀ a xs, h.IsTuple a xs → h'.IsTuple a xs
  l : ∀ a xs, h.IsList a xs → h'.IsList a xs

theorem KeepSeq.of {h h' : Heap} (k : Ext h h') : KeepSeq h h' :=
  ⟨fun _ _ ⟨o, ho, r⟩ => ⟨o, k _ _ ho, r⟩, fun _ _ ⟨o, ho, r⟩ => ⟨o, k _ _ ho, r⟩⟩
theorem KeepSeq.trans {h h' h'' : Heap} (x : KeepSeq h h') (y : KeepSeq h' h'') : KeepSeq h h'' :=
  ⟨fun a xs e => y.t a xs (x.t a xs e), fun a xs e => y.l a xs (x.l a xs e)⟩

mutual
theorem Rep.keep {h h' : Heap} (k : KeepSeq h h') : ∀ (d : D) (v : Value), Rep h d v → Rep h' d v
  | .none, _, e => e
  | .bool _, _, e => e
  | .int _, _, e => e
  | .str _, _, e => e
  | .tup l, _, ⟨a, vs, e, t, r⟩ => ⟨a, vs, e, k.t _ _ t, Reps.keep k l vs r⟩
  | .list l, _, ⟨a, vs, e, t, r⟩ => ⟨a, vs, e, k.l _ _ t, Reps.keep k l vs r⟩
theorem Reps.keep {h h' : Heap} (k : KeepSeq h h') : ∀ (l : List D) (vs : List Value), Reps h l vs → Reps h' l vs
  | [], _, e => e
  | d :: r, _, ⟨v, t, e, x, y⟩ => ⟨v, t, e, Rep.keep k d v x, Reps.keep k r t y⟩
end

mutual
theorem Rep.keepT {h h' : Heap} (k : ∀ a xs, h.IsTuple a xs → h'.IsTuple a xs) : ∀ (d : D) (v : Value), d.flat = true → Rep h d v → Rep h' d v
  | .none, _, _, e => e
  | .bool _, _, _, e => e
  | .int _, _, _, e => e
  | .str _, _, _, e => e
  | .tup l, _, f, ⟨a, vs, e, t, r⟩ => ⟨a, vs, e, k _ _ t, Reps.keepT k l vs (by simpa [D.flat] using f) r⟩
  | .list _, _, f, _ => by simp [D.flat] at f
theorem Reps.keepT {h h' : Heap} (k : ∀ a xs, h.IsTuple a xs → h'.IsTuple a xs) : ∀ (l : List D) (vs : List Value), D.flats l = true → Reps h l vs → Reps h' l vs
  | [], _, _, e => e
  | d :: r, _, f, ⟨v, t, e, x, y⟩ => by
    simp only [D.flats, Bool.and_eq_true] at f
    exact ⟨v, t, e, Rep.keepT k d v f.1 x, Reps.keepT k r t f.2 y⟩
end

theorem Reps.length {h : Heap} : ∀ {l : List D} {vs : List Value}, Reps h l vs → vs.length = l.length
  | [], _, e => by cases e; rfl
  | _ :: _, _, ⟨_, _, e, _, y⟩ => by cases e; simp [Reps.length y]

theorem Reps.get {h : Heap} : ∀ {l : List D} {vs : List Value} {i : Nat} {d : D}, Reps h l vs → l[i]? = some d → ∃ v, vs[i]? = some v ∧ Rep h d v
  | d :: r, _, 0, d', ⟨v, t, e, x, y⟩, hi => by cases e; simp at hi; subst hi; exact ⟨v, rfl, x⟩
  | d :: r, _, i + 1, d', ⟨v, t, e, x, y⟩, hi => by cases e; simp at hi; simpa using Reps.get y hi
  | [], _, _, _, _, hi => by simp at hi

theorem Reps.append {h : Heap} : ∀ {l l' : List D} {vs vs' : List Value}, Reps h l vs → Reps h l' vs' → Reps h (l ++ l') (vs ++ vs')
  | [], _, _, _, e, y => by cases e; simpa using y
  | d :: r, _, _, _, ⟨v, t, e, x, y⟩, z => by cases e; exact ⟨v, _, rfl, x, Reps.append y z⟩

theorem Reps.take {h : Heap} : ∀ {l : List D} {vs : List Value} (n : Nat), Reps h l vs → Reps h (l.take n) (vs.take n)
  | [], _, n, e => by cases e; simp [Reps]
  | _ :: _, _, 0, _ => by simp [Reps]
  | d :: r, _, n + 1, ⟨v, t, e, x, y⟩ => by cases e; exact ⟨v, _, rfl, x, Reps.take n y⟩
theorem Reps.drop {h : Heap} : ∀ {l : List D} {vs : List Value} (n : Nat), Reps h l vs → Reps h (l.drop n) (vs.drop n)
  | [], _, n, e => by cases e; simp [Reps]
  | _ :: _, _, 0, e => by simpa using e
  | d :: r, _, n + 1, ⟨v, t, e, x, y⟩ => by cases e; simpa using Reps.drop n y

theorem Reps.ints {h : Heap} {vs : List Value} {ns : List Int} (i : IntsAre vs ns) : Reps h (ns.map D.int) vs := by
  induction i with
  | nil => rfl
  | cons n t _ ih => exact ⟨_, _, rfl, ⟨_, rfl⟩, ih⟩

-- ## the small language
abbrev Rho := List (Option D)
def look : Rho → Nat → Option D
  | [], _ => none
  | x :: _, 0 => x
  | _ :: r, n + 1 => look r n
def put : Rho → Nat → D → Rho
  | [], _, _ => []
  | _ :: r, 0, d => some d :: r
  | x :: r, n + 1, d => x :: put r n d

inductive PE where
  | bad
  | cst (d : D)
  | var (i : Nat)
  | glob (n : Str)
  | bin (o : Operator) (a b : PE)
  | neg (a : PE)
  | nt (a : PE)
  | cmp (o : CmpOp) (a b : PE)
  | cmp2 (o₁ o₂ : CmpOp) (a b c : PE)
  | and (a b : PE)
  | or (a b : PE)
  | ite (c a b : PE)
  | call (f : Str) (as : PE)
  | isInt (a : PE) | abs (a : PE) | len (a : PE) | dm (a b : PE) | tupOf (a : PE) | toInt (a : PE)
  | bitlen (a : PE)
  | sub (a i : PE)
  | dget (g : Str) (i : PE)
  | take (a : PE) (n : Nat)
  | drop (a : PE) (n : Nat)
  | tup (as : PE) | list (as : PE)
  | nil | cons (a as : PE)
  | comp (caps : List (Option Nat)) (t : List Nat) (pr : Bool) (it elt : PE)
  | comp2 (caps : List (Option Nat)) (t₁ t₂ : Nat) (it₁ it₂ elt : PE)

def dTruth : D → Prop → Prop → Prop
  | .int i, P, N => (i ≠ 0 → P) ∧ (i = 0 → N)
  | .bool b, P, N => (b = true → P) ∧ (b = false → N)
  | _, _, _ => False

def dBin : Operator → D → D → (D → Prop) → Prop
  | .Add, .int a, .int b, Q => Q (.int (a + b))
  | .Add, .list a, .list b, Q => a.length + b.length ≤ 1000 ∧ Q (.list (a ++ b))
  | .Sub, .int a, .int b, Q => Q (.int (a - b))
  | .Mult, .int a, .int b, Q => IntMulOk a b ∧ Q (.int (a * b))
  | .FloorDiv, .int a, .int b, Q => b ≠ 0 ∧ Builtin.divisionGoesByPylong a b = false ∧ Q (.int (a.fdiv b))
  | .Mod, .int a, .int b, Q => b ≠ 0 ∧ Q (.int (a.fmod b))
  | .Pow, .int a, .int b, Q => 0 ≤ b ∧ (Builtin.Int.intBits a : Int) * b ≤ 2 ^ 27 ∧ Q (.int (a ^ b.toNat))
  | .LShift, .int a, .int b, Q => 0 ≤ b ∧ (Builtin.Int.intBits a : Int) + b ≤ 2 ^ 27 ∧ Q (.int (a * 2 ^ b.toNat))
  | .RShift, .int a, .int b, Q => 0 ≤ b ∧ Q (.int (a.fdiv (2 ^ b.toNat)))
  | .BitAnd, .int a, .int b, Q => Q (.int (Builtin.bitAnd a b))
  | .BitXor, .int a, .int b, Q => Q (.int (Builtin.bitXor a b))
  | _, _, _, _ => False

def dCmp : CmpOp → D → D → Prop → Prop → Prop
  | .Eq, .int a, .int b, P, N => (a = b → P) ∧ (a ≠ b → N)
  | .NotEq, .int a, .int b, P, N => (a ≠ b → P) ∧ (a = b → N)
  | .Lt, .int a, .int b, P, N => (a < b → P) ∧ (¬ a < b → N)
  | .LtE, .int a, .int b, P, N => (a ≤ b → P) ∧ (¬ a ≤ b → N)
  | .Gt, .int a, .int b, P, N => (b < a → P) ∧ (¬ b < a → N)
  | .GtE, .int a, .int b, P, N => (b ≤ a → P) ∧ (¬ b ≤ a → N)
  | .Eq, .bool a, .bool b, P, N => (a = b → P) ∧ (a ≠ b → N)
  | .Eq, .str a, .str b, P, N => (a = b → P) ∧ (a ≠ b → N)
  | .Eq, .tup a, .tup b, P, N => D.pts a = true ∧ D.pts b = true ∧ (a = b → P) ∧ (a ≠ b → N)
  | .NotEq, .tup a, .tup b, P, N => D.pts a = true ∧ D.pts b = true ∧ (a ≠ b → P) ∧ (a = b → N)
  | .In, .tup a, .list b, P, N => D.pts a = true ∧ D.pts b = true ∧ (.tup a ∈ b → P) ∧ (¬ .tup a ∈ b → N)
  | _, _, _, _, _ => False

def nameD : D → (D → Prop) → Prop
  | .int i, K => ∀ j, j = i → K (.int j)
  | d, K => K d

def dItems : D → Option (List D)
  | .tup l => some l
  | .list l => some l
  | _ => none

def bindT : List Nat → Bool → D → Rho → (Rho → Prop) → Prop
  | [i], false, d, ρ, K => K (put ρ i d)
  | [i, j], true, .tup [x, y], ρ, K => K (put (put ρ i x) j y)
  | _, _, _, _, _ => False

def pBind : List D → (D → (List D → Prop) → Prop) → (List D → Prop) → Prop
  | [], _, Q => Q []
  | d :: r, f, Q => f d fun ys => pBind r f fun zs => Q (ys ++ zs)

def capR (caps : List (Option Nat)) (ρ : Rho) : Rho := caps.map fun c => c.bind (look ρ)

section
variable (FN : Str → Prop) (T : Str → List D → D → Prop) (G : Str → D → Prop) (GD : Str → Str → D → Prop)
mutual
def pE : PE → Rho → (D → Prop) → Prop
  | .cst d, _, Q => Q d
  | .var i, ρ, Q => (match look ρ i with | some d => Q d | none => False)
  | .glob n, _, Q => ∃ d, G n d ∧ Q d
  | .bin o a b, ρ, Q => pE a ρ fun x => pE b ρ fun y => dBin o x y Q
  | .neg a, ρ, Q => pE a ρ fun x => (match x with | .int i => Q (.int (-i)) | _ => False)
  | .nt a, ρ, Q => pE a ρ fun x => dTruth x (Q (.bool false)) (Q (.bool true))
  | .cmp o a b, ρ, Q => pE a ρ fun x => pE b ρ fun y => dCmp o x y (Q (.bool true)) (Q (.bool false))
  | .and a b, ρ, Q => pE a ρ fun x => dTruth x (pE b ρ Q) (Q x)
  | .or a b, ρ, Q => pE a ρ fun x => dTruth x (Q x) (pE b ρ Q)
  | .ite c a b, ρ, Q => pT c ρ (pE a ρ Q) (pE b ρ Q)
  | .call f as, ρ, Q => FN f ∧ pL as ρ fun ds => ∃ d, T f ds d ∧ Q d
  | .isInt a, ρ, Q => pE a ρ fun x => (match x with | .int _ => Q (.bool true) | _ => False)
  | .abs a, ρ, Q => pE a ρ fun x => (match x with | .int i => Q (.int (if i < 0 then -i else i)) | _ => False)
  | .len a, ρ, Q => pE a ρ fun x => (match x with | .list l => l.length ≤ 1000 ∧ Q (.int l.length) | _ => False)
  | .dm a b, ρ, Q => pE a ρ fun x => pE b ρ fun y => (match x, y with | .int i, .int j => j ≠ 0 ∧ Builtin.divisionGoesByPylong i j = false ∧ Q (.tup [.int (i.fdiv j), .int (i.fmod j)]) | _, _ => False)
  | .tupOf a, ρ, Q => pE a ρ fun x => (match x with | .list l => l.length ≤ 1000 ∧ Q (.tup l) | _ => False)
  | .toInt a, ρ, Q => pE a ρ fun x => (match x with | .int i => Q (.int i) | _ => False)
  | .bitlen a, ρ, Q => pE a ρ fun x => (match x with | .int i => Q (.int (Builtin.Int.intBits i)) | _ => False)
  | .sub a i, ρ, Q => pE a ρ fun x => pE i ρ fun y => (match dItems x, y with | some l, .int k => 0 ≤ k ∧ k < 1000 ∧ ∃ d, l[k.toNat]? = some d ∧ Q d | _, _ => False)
  | .dget g i, ρ, Q => (∃ k d, GD g k d) ∧ pE i ρ fun y => (match y with | .str k => ∃ d, GD g k d ∧ Q d | _ => False)
  | .take a n, ρ, Q => pE a ρ fun x => (match x with | .list l => l.length ≤ 1000 ∧ Q (.list (l.take n)) | _ => False)
  | .drop a n, ρ, Q => pE a ρ fun x => (match x with | .list l => l.length ≤ 1000 ∧ Q (.list (l.drop n)) | _ => False)
  | .tup as, ρ, Q => pL as ρ fun ds => Q (.tup ds)
  | .list as, ρ, Q => pL as ρ fun ds => Q (.list ds)
  | .comp caps t pr it elt, ρ, Q => pE it ρ fun x => (match dItems x with
      | some l => D.flats l = true ∧ l.length ≤ 1000 ∧ pBind l (fun d K => bindT t pr d (capR caps ρ) fun ρ' => pE elt ρ' fun y => y.flat = true ∧ K [y]) (fun ys => Q (.list ys))
      | none => False)
  | .comp2 caps t₁ t₂ it₁ it₂ elt, ρ, Q => pE it₁ ρ fun x => (match dItems x with
      | some l => D.flats l = true ∧ l.length ≤ 100 ∧ pBind l (fun d K => pE it₂ (put (capR caps ρ) t₁ d) fun x₂ => (match dItems x₂ with
          | some l₂ => D.flats l₂ = true ∧ l₂.length ≤ 100 ∧ pBind l₂ (fun d₂ K₂ => pE elt (put (put (capR caps ρ) t₁ d) t₂ d₂) fun y => y.flat = true ∧ K₂ [y]) K
          | none => False)) (fun ys => Q (.list ys))
      | none => False)
  | _, _, _ => False
def pL : PE → Rho → (List D → Prop) → Prop
  | .nil, _, Q => Q []
  | .cons a as, ρ, Q => pE a ρ fun d => pL as ρ fun ds => Q (d :: ds)
  | _, _, _ => False
def pT : PE → Rho → Prop → Prop → Prop
  | .nt a, ρ, P, N => pT a ρ N P
  | .and a b, ρ, P, N => pT a ρ (pT b ρ P N) N
  | .or a b, ρ, P, N => pT a ρ P (pT b ρ P N)
  | .ite c a b, ρ, P, N => pT c ρ (pT a ρ P N) (pT b ρ P N)
  | .cmp o a b, ρ, P, N => pE a ρ fun x => pE b ρ fun y => dCmp o x y P N
  | .cmp2 o₁ o₂ a b c, ρ, P, N => pE a ρ fun x => pE b ρ fun y => dCmp o₁ x y (pE c ρ fun z => dCmp o₂ y z P N) N
  | .var i, ρ, P, N => (match look ρ i with | some d => dTruth d P N | none => False)
  | .bin o a b, ρ, P, N => pE a ρ fun x => pE b ρ fun y => dBin o x y fun d => dTruth d P N
  | .sub a i, ρ, P, N => pE a ρ fun x => pE i ρ fun y => (match dItems x, y with | some l, .int k => 0 ≤ k ∧ k < 1000 ∧ ∃ d, l[k.toNat]? = some d ∧ dTruth d P N | _, _ => False)
  | .isInt a, ρ, P, N => pE a ρ fun x => (match x with | .int _ => dTruth (.bool true) P N | _ => False)
  | .call f as, ρ, P, N => FN f ∧ pL as ρ fun ds => ∃ d, T f ds d ∧ dTruth d P N
  | _, _, _, _ => False
end
end

inductive PS where
  | bad
  | done
  | asg (x : Nat) (e : PE) (r : PS)
  | asg2 (x y : Nat) (e : PE) (r : PS)
  | unp (xs : List Nat) (e : PE) (r : PS)
  | unpR (xs : List Nat) (e : PE) (r : PS)
  | aug (x : Nat) (o : Operator) (e : PE) (r : PS)
  | ifs (c : PE) (a b r : PS)
  | ret (e : PE)
  | asrt (c : PE) (r : PS)
  | fors (x : Nat) (it : PE) (body r : PS)
  | whl (c : PE) (body r : PS)

inductive Fl where
  | nx (ρ : Rho)
  | rt (d : D)

def putAll : List Nat → List D → Rho → (Rho → Prop) → Prop
  | [], [], ρ, K => K ρ
  | x :: xs, d :: ds, ρ, K => nameD d fun d' => putAll xs ds (put ρ x d') K
  | _, _, _, _ => False

def pFor : List D → (D → Rho → (Fl → Prop) → Prop) → Rho → (Fl → Prop) → Prop
  | [], _, ρ, K => K (.nx ρ)
  | d :: ds, f, ρ, K => f d ρ fun fl => (match fl with | .nx ρ' => pFor ds f ρ' K | .rt v => K (.rt v))

def pWhl (test : Rho → Prop → Prop → Prop) (step : Rho → (Fl → Prop) → Prop) : Nat → Rho → (Fl → Prop) → Prop
  | 0, _, _ => False
  | n + 1, ρ, K => test ρ (step ρ fun fl => (match fl with | .nx ρ' => pWhl test step n ρ' K | .rt v => K (.rt v))) (K (.nx ρ))

section
variable (FN : Str → Prop) (T : Str → List D → D → Prop) (G : Str → D → Prop) (GD : Str → Str → D → Prop)
def pS : PS → Rho → (Fl → Prop) → Prop
  | .done, ρ, K => K (.nx ρ)
  | .asg x e r, ρ, K => pE FN T G GD e ρ fun d => nameD d fun d' => pS r (put ρ x d') K
  | .asg2 x y e r, ρ, K => pE FN T G GD e ρ fun d => pS r (put (put ρ x d) y d) K
  | .unp xs e r, ρ, K => pE FN T G GD e ρ fun d => (match d with | .tup ds => xs.length = ds.length ∧ putAll xs ds ρ fun ρ' => pS r ρ' K | _ => False)
  | .unpR xs e r, ρ, K => pE FN T G GD e ρ fun d => (match d with | .tup ds => xs.length = ds.length ∧ putAll xs.reverse ds.reverse ρ fun ρ' => pS r ρ' K | _ => False)
  | .aug x o e r, ρ, K => (match look ρ x with | some (.int i) => pE FN T G GD e ρ fun y => dBin o (.int i) y fun z => nameD z fun z' => pS r (put ρ x z') K | _ => False)
  | .ifs c a b r, ρ, K => pT FN T G GD c ρ (pS a ρ fun fl => (match fl with | .nx ρ' => pS r ρ' K | .rt v => K (.rt v))) (pS b ρ fun fl => (match fl with | .nx ρ' => pS r ρ' K | .rt v => K (.rt v)))
  | .ret e, ρ, K => pE FN T G GD e ρ fun d => K (.rt d)
  | .asrt c r, ρ, K => pT FN T G GD c ρ (pS r ρ K) False
  | .fors x it body r, ρ, K => pE FN T G GD it ρ fun d => (match d with
      | .list l => l.length ≤ 1000 ∧ pFor l (fun d ρ K => pS body (put ρ x d) K) ρ fun fl => (match fl with | .nx ρ' => pS r ρ' K | .rt v => K (.rt v))
      | _ => False)
  | .whl c body r, ρ, K => ∃ n, pWhl (fun ρ P N => pT FN T G GD c ρ P N) (fun ρ K => pS body ρ K) n ρ fun fl => (match fl with | .nx ρ' => pS r ρ' K | .rt v => K (.rt v))
  | .bad, _, _ => False
end
end
section
open PySem PySem.W PySem.Calls PyProof.Rows
abbrev Names := List (Str × NameKind)

def nIdx (nm : Names) (x : Str) : Option Nat := nm.findIdx? (·.1 == x)

def isVar : Option NameKind → Bool
  | some .local => true | some .cell => true | some .free => true | _ => false

def plainName (x : Str) : Bool := !(x == ("__debug__" : Str)) && !(x == ("__classdict__" : Str)) && !(x == ("__name__" : Str))

def cVar (nm : Names) (x : Str) : Option Nat := if plainName x && isVar (nm.lookup x) then nIdx nm x else none
def isGlob (nm : Names) (x : Str) : Bool := plainName x && nm.lookup x == some .globalImplicit

def cName (nm : Names) (x : Str) : PE := match cVar nm x with
  | some i => .var i
  | none => if isGlob nm x then .glob x else .bad

def notStar : Expr → Bool
  | .Starred .. => false
  | _ => true

-- the expressions whose attribute base is themselves
def plainBase : Expr → Bool
  | .Name .. => true
  | .BinOp .. => true
  | _ => false

def builtinsUsed : List Str := ["isinstance", "abs", "len", "divmod", "tuple", "int"]

def relab (nm inner : Names) : Names := inner.map fun (n, k) => if (k == .free && nm.lookup n == some .cell) then (n, .cell) else (n, k)

def scopeOk (sc : Scope) : Bool := sc.kind == .function && sc.names.all (fun y => y.2 != .cell) && sc.names.all (fun y => y.2 != .local || sc.names.lookup y.1 == some .local) &&
  sc.names.all (fun y => y.2 != .free || (sc.names.lookup y.1 == some .free)) && decide ((sc.names.map (·.1)).Nodup)
-- what a comprehension takes from the frame around: cells alone
def capsOf (nm inner : Names) : List (Option Nat) := inner.map fun (n, k) => if k == .free then cVar nm n else none
def freeOk (nm inner : Names) : Bool := inner.all fun (n, k) => k != .free || nm.lookup n == some .cell

def litIndex : Option Expr → Option Nat
  | some (.Constant (.int i) _ _) => if 0 ≤ i ∧ i ≤ 1000 then some i.toNat else none
  | _ => none

-- a target of a comprehension, in the inner names
def cTgt (inner : Names) : Expr → Option (List Nat × Bool)
  | .Name x _ => if inner.lookup x == some .local && plainName x then (nIdx inner x).map fun i => ([i], false) else none
  | .Tuple [.Name x _, .Name y _] _ _ => if inner.lookup x == some .local && inner.lookup y == some .local && plainName x && plainName y && x != y then
      (match nIdx inner x, nIdx inner y with | some i, some j => some ([i, j], true) | _, _ => none) else none
  | _ => none
def isTupleE : Expr → Bool
  | .Tuple .. => true
  | _ => false

def notSet : Expr → Bool
  | .Set .. => false
  | _ => true
mutual
def cE : Nat → Names → Expr → PE
  | 0, _, _ => .bad
  | n + 1, nm, e => match e with
    | .Constant (.int i) _ _ => .cst (.int i)
    | .Constant (.bool b) _ _ => .cst (.bool b)
    | .Constant (.str x) _ _ => .cst (.str x)
    | .Constant .none _ _ => .cst .none
    | .Name x _ => cName nm x
    | .BinOp l o r _ => .bin o (cE n nm l) (cE n nm r)
    | .UnaryOp .USub x _ => .neg (cE n nm x)
    | .UnaryOp .Not x _ => .nt (cE n nm x)
    | .BoolOp .And [x, y] _ => .and (cE n nm x) (cE n nm y)
    | .BoolOp .Or [x, y] _ => .or (cE n nm x) (cE n nm y)
    | .IfExp t b o _ => .ite (cT n nm t) (cE n nm b) (cE n nm o)
    | .Compare l [o] [r] _ => if behindInMarks o r then .bad else .cmp o (cE n nm l) (cE n nm r)
    | .Call (.Name f _) as [] _ => if !isGlob nm f || !as.all notStar then .bad else
        (match as with
        | [] => .bad
        | a :: r =>
          if f == ("isinstance" : Str) then (match r with | [.Name t _] => if t == ("int" : Str) && isGlob nm t then .isInt (cE n nm a) else .bad | _ => .bad)
          else if f == ("abs" : Str) then (match r with | [] => .abs (cE n nm a) | _ => .bad)
          else if f == ("len" : Str) then (match r with | [] => .len (cE n nm a) | _ => .bad)
          else if f == ("tuple" : Str) then (match r with | [] => .tupOf (cE n nm a) | _ => .bad)
          else if f == ("int" : Str) then (match r with | [] => .toInt (cE n nm a) | _ => .bad)
          else if f == ("divmod" : Str) then (match r with | [b] => .dm (cE n nm a) (cE n nm b) | _ => .bad)
          else .call f (cL n nm (a :: r)))
    | .Call (.Attribute o m ap) [] [] p => if m == ("bit_length" : Str) && plainBase o && ap.endLine == p.line then .bitlen (cE n nm o) else .bad
    | .Subscript v (.Slice none up none _) _ => (match v, litIndex up with | .Name .., some k => .take (cE n nm v) k | _, _ => .bad)
    | .Subscript v (.Slice lo none none _) _ => (match v, litIndex lo with | .Name .., some k => .drop (cE n nm v) k | _, _ => .bad)
    | .Subscript _ (.Slice ..) _ => .bad
    | .Subscript (.Name g p) s _ => if isGlob nm g then .dget g (cE n nm s) else .sub (cE n nm (.Name g p)) (cE n nm s)
    | .Subscript v s _ => .sub (cE n nm v) (cE n nm s)
    | .Tuple es _ _ => if es.all notStar && es.length ≤ 1000 then .tup (cL n nm es) else .bad
    | .List es _ => if es.all notStar && es.length ≤ 1000 then .list (cL n nm es) else .bad
    | .ListComp elt [⟨t, it, [], 0⟩] sc _ => if !scopeOk sc || !freeOk nm sc.names || !notSet it then .bad else
        (match cTgt sc.names t with
        | some (ts, pr) => .comp (capsOf nm sc.names) ts pr (cE n nm it) (cE n (relab nm sc.names) elt)
        | none => .bad)
    | .ListComp elt [⟨.Name x _, it, [], 0⟩, ⟨.Name y _, .Name z _, [], 0⟩] sc _ => if !scopeOk sc || !freeOk nm sc.names || !(sc.names.lookup x == some .local && sc.names.lookup y == some .local && plainName x && plainName y && x != y && sc.names.lookup z == some .free && plainName z) || !notSet it then .bad else
        (match nIdx sc.names x, nIdx sc.names y, nIdx sc.names z with
        | some i, some j, some l => .comp2 (capsOf nm sc.names) i j (cE n nm it) (.var l) (cE n (relab nm sc.names) elt)
        | _, _, _ => .bad)
    | _ => .bad
def cL : Nat → Names → List Expr → PE
  | 0, _, _ => .bad
  | _ + 1, _, [] => .nil
  | n + 1, nm, e :: r => .cons (cE n nm e) (cL n nm r)
def cT : Nat → Names → Expr → PE
  | 0, _, _ => .bad
  | n + 1, nm, e => match e with
    | .UnaryOp .Not x _ => .nt (cT n nm x)
    | .BoolOp op vs _ => cB n nm op vs
    | .Compare l [o] [r] _ => if behindInMarks o r then .bad else .cmp o (cE n nm l) (cE n nm r)
    | .Compare l [o₁, o₂] [m, r] _ => if behindInMarks o₁ m || behindInMarks o₂ r then .bad else .cmp2 o₁ o₂ (cE n nm l) (cE n nm m) (cE n nm r)
    | .Name x _ => (match cVar nm x with | some i => .var i | none => .bad)
    | .BinOp l o r _ => .bin o (cE n nm l) (cE n nm r)
    | .Subscript v s p => (match cE n nm (.Subscript v s p) with | .sub a i => .sub a i | _ => .bad)
    | .Call f as ks p => (match cE n nm (.Call f as ks p) with | .isInt a => .isInt a | .call f as => .call f as | _ => .bad)
    | .IfExp t b o _ => .ite (cT n nm t) (cT n nm b) (cT n nm o)
    | _ => .bad
def cB : Nat → Names → BoolOp → List Expr → PE
  | 0, _, _, _ => .bad
  | n + 1, nm, op, es => match op, es with
    | .And, [x, y] => .and (cT n nm x) (cT n nm y)
    | .Or, [x, y] => .or (cT n nm x) (cT n nm y)
    | .And, x :: y :: z :: r => .and (cT n nm x) (cB n nm .And (y :: z :: r))
    | .Or, x :: y :: z :: r => .or (cT n nm x) (cB n nm .Or (y :: z :: r))
    | _, _ => .bad
end

-- names as targets, all local
def cNames (nm : Names) : List Expr → Option (List Nat)
  | [] => some []
  | .Name x _ :: r => if plainName x && nm.lookup x == some .local then (match nIdx nm x, cNames nm r with | some i, some l => some (i :: l) | _, _ => none) else none
  | _ => none
def namesOf : List Expr → List Str
  | [] => []
  | .Name x _ :: r => x :: namesOf r
  | _ :: r => namesOf r
def notComp : Expr → Bool
  | .ListComp .. => false
  | .SetComp .. => false
  | .DictComp .. => false
  | _ => true
def isTup2 : Expr → Bool
  | .Tuple .. => true
  | _ => false
-- the stores are exchanged
def swaps (ts : List Expr) : Expr → Bool
  | .Tuple vs _ _ => (ts.length == 2 || ts.length == 3) && vs.length == ts.length && vs.all notStar && !(vs.all (foldedForSure 8)) && !(vs.all (constantsAlone 8)) &&
      (namesOf ts).eraseDups.length == (namesOf ts).length && (match ts with | .Name _ p :: r => r.all (fun | .Name _ q => q.line == p.line | _ => false) | _ => false)
  | _ => false

def cS : Nat → Names → List Stmt → PS
  | 0, _, _ => .bad
  | _ + 1, _, [] => .done
  | n + 1, nm, st :: r => match st with
    | .Return (some e) _ => .ret (cE n nm e)
    | .Assign [.Name x px] v _ => if !plainName x then .bad else
        (match nm.lookup x, nIdx nm x with
        | some .local, some i => if notComp v then .asg i (cE n nm v) (cS n nm r) else
            (match v with
            | .ListComp _ _ sc vp => if px.line == vp.line && !(sc.names.any fun (m, k) => m == x && (k == .local || k == .cell)) then .asg i (cE n nm v) (cS n nm r) else .bad
            | _ => .bad)
        | some .cell, some i => if notComp v then .asg i (cE n nm v) (cS n nm r) else .bad
        | _, _ => .bad)
    | .Assign [.Name x _, .Name y _] v _ => if notComp v && x != y then (match cNames nm [.Name x default, .Name y default] with | some [i, j] => .asg2 i j (cE n nm v) (cS n nm r) | _ => .bad) else .bad
    | .Assign [.Tuple ts _ _] v _ => if !notComp v then .bad else
        (match cNames nm ts with
        | some xs => if swaps ts v then .unpR xs (cE n nm v) (cS n nm r) else if isTup2 v then .bad else .unp xs (cE n nm v) (cS n nm r)
        | none => .bad)
    | .AugAssign (.Name x _) o v _ => (match nm.lookup x, nIdx nm x with
        | some .local, some i => if plainName x then .aug i o (cE n nm v) (cS n nm r) else .bad
        | _, _ => .bad)
    | .If t b o _ => .ifs (cT n nm t) (cS n nm b) (cS n nm o) (cS n nm r)
    | .Assert t _ _ => .asrt (cT n nm t) (cS n nm r)
    | .For (.Name x _) it b [] _ => (match nm.lookup x, nIdx nm x with
        | some .local, some i => if plainName x && notSet it then .fors i (cE n nm it) (cS n nm b) (cS n nm r) else .bad
        | _, _ => .bad)
    | .While t b [] _ => .whl (cT n nm t) (cS n nm b) (cS n nm r)
    | _ => .bad
end
section
open PySem PySem.W PySem.Calls PyProof.Rows PySem.SeqAt
open Classical in
noncomputable def sameD (a b : D) : Bool := decide (a = b)
theorem sameD_iff {a b : D} : sameD a b = true ↔ a = b := by unfold sameD; simp
theorem sameD_self (a : D) : sameD a a = true := sameD_iff.mpr rfl
theorem sameD_false {a b : D} : sameD a b = false ↔ a ≠ b := by unfold sameD; simp

theorem isTuple_unique {h : Heap} {a : Addr} {xs ys : Array Value} (x : h.IsTuple a xs) (y : h.IsTuple a ys) : xs = ys := by
  obtain ⟨o, ho, _, n, hd⟩ := x
  obtain ⟨o', ho', _, n', hd'⟩ := y
  rw [ho] at ho'; cases ho'
  rw [hd] at hd'; cases hd'; rfl

theorem Rep.unique {h : Heap} : ∀ (n : Nat) (a b : D) (v : Value), a.ptn n = true → b.ptn n = true → Rep h a v → Rep h b v → a = b := by
  intro n
  induction n with
  | zero =>
    intro a b v ha hb ra rb
    cases a <;> simp [D.ptn] at ha
    cases b <;> simp [D.ptn] at hb
    obtain ⟨t, rfl⟩ := ra; obtain ⟨u, e⟩ := rb; cases e; rfl
  | succ n ih =>
    intro a b v ha hb ra rb
    cases a with
    | int i =>
      obtain ⟨t, rfl⟩ := ra
      cases b with
      | int j => obtain ⟨u, e⟩ := rb; cases e; rfl
      | tup l => obtain ⟨_, _, e, _⟩ := rb; cases e
      | _ => simp [D.ptn] at hb
    | tup l =>
      obtain ⟨x, vs, rfl, tx, rx⟩ := ra
      cases b with
      | int j => obtain ⟨u, e⟩ := rb; cases e
      | tup l' =>
        obtain ⟨y, ws, e, ty, ry⟩ := rb; cases e
        have hv : vs = ws := by have := isTuple_unique tx ty; simpa using congrArg Array.toList this
        subst hv
        congr 1
        simp only [D.ptn] at ha hb
        clear tx ty
        induction l generalizing vs l' with
        | nil => cases rx; cases l' with
          | nil => rfl
          | cons d r => obtain ⟨_, _, e, _⟩ := ry; cases e
        | cons d r ih2 =>
          obtain ⟨v, t, rfl, r1, r2⟩ := rx
          cases l' with
          | nil => cases ry
          | cons d' r' =>
            obtain ⟨_, _, e, q1, q2⟩ := ry; cases e
            simp only [List.all_cons, Bool.and_eq_true] at ha hb
            rw [ih d d' v ha.1 hb.1 r1 q1, ih2 ha.2 t r2 r' hb.2 q2]
      | _ => simp [D.ptn] at hb
    | _ => simp [D.ptn] at ha

theorem eqAt_pt : ∀ (n : Nat) (a b : D) (A : Around) (s : Shared) (v w : Value), a.ptn n = true → b.ptn n = true → Rep s.heap a v → Rep s.heap b w → A.units + n < cLine → EqAt A s v w (sameD a b) := by
  intro n
  induction n with
  | zero =>
    intro a b A s v w ha hb ra rb hu
    cases a <;> simp [D.ptn] at ha
    cases b <;> simp [D.ptn] at hb
    obtain ⟨t, rfl⟩ := ra; obtain ⟨u, rfl⟩ := rb
    rename_i i j
    have : sameD (.int i) (.int j) = (i == j) := by
      cases h : (i == j)
      · exact sameD_false.mpr (by intro e; cases e; simp at h)
      · rw [beq_iff_eq.mp h]; exact sameD_self _
    rw [this]; exact EqAt.int_int i t j u
  | succ n ih =>
    intro a b A s v w ha hb ra rb hu
    have hu0 : A.units < cLine := by omega
    cases a with
    | int i =>
      obtain ⟨t, rfl⟩ := ra
      cases b with
      | int j =>
        obtain ⟨u, rfl⟩ := rb
        have : sameD (.int i) (.int j) = (i == j) := by
          cases h : (i == j)
          · exact sameD_false.mpr (by intro e; cases e; simp at h)
          · rw [beq_iff_eq.mp h]; exact sameD_self _
        rw [this]; exact EqAt.int_int i t j u
      | tup l =>
        obtain ⟨x, vs, rfl, tx, rx⟩ := rb
        rw [sameD_false.mpr (by intro e; cases e)]
        exact EqAt.int_tuple i t tx hu0
      | _ => simp [D.ptn] at hb
    | tup l =>
      obtain ⟨x, vs, rfl, tx, rx⟩ := ra
      cases b with
      | int j =>
        obtain ⟨u, rfl⟩ := rb
        rw [sameD_false.mpr (by intro e; cases e)]
        exact EqAt.tuple_int j u tx hu0
      | tup l' =>
        obtain ⟨y, ws, rfl, ty, ry⟩ := rb
        by_cases hxy : x = y
        · subst hxy
          have e := Rep.unique (n + 1) (.tup l) (.tup l') (.ref x) ha hb ⟨x, vs, rfl, tx, rx⟩ ⟨x, ws, rfl, ty, ry⟩
          rw [e, sameD_self]
          exact EqAt.same _
        · simp only [D.ptn] at ha hb
          have l1 := Reps.length rx
          have l2 := Reps.length ry
          have key := RcAt.tuples (A := A) (s := s) (e := fun j => sameD (l.getD j .none) (l'.getD j .none)) tx ty hu0 (fun j h1 h2 => by
            have j1 : j < l.length := by simpa [l1] using h1
            have j2 : j < l'.length := by simpa [l2] using h2
            obtain ⟨v1, e1, r1⟩ := Reps.get rx (List.getElem?_eq_getElem j1)
            obtain ⟨v2, e2, r2⟩ := Reps.get ry (List.getElem?_eq_getElem j2)
            have h1' : j < vs.length := by simpa using h1
            have h2' : j < ws.length := by simpa using h2
            rw [List.getElem?_eq_getElem h1'] at e1
            rw [List.getElem?_eq_getElem h2'] at e2
            cases e1; cases e2
            have g1 : l.getD j .none = l[j] := by simp [List.getD, j1]
            have g2 : l'.getD j .none = l'[j] := by simp [List.getD, j2]
            simp only [g1, g2, List.getElem_toArray]
            exact ih _ _ A.in1 s _ _ (List.all_eq_true.mp ha _ (List.getElem_mem j1)) (List.all_eq_true.mp hb _ (List.getElem_mem j2)) r1 r2 (by show A.units + 1 + n < cLine; omega))
          have fin : ((List.range (min vs.toArray.size ws.toArray.size)).all (fun j => sameD (l.getD j .none) (l'.getD j .none)) && vs.toArray.size == ws.toArray.size) = sameD (.tup l) (.tup l') := by
            simp only [List.size_toArray, l1, l2]
            cases hs : sameD (.tup l) (.tup l')
            · have ne := sameD_false.mp hs
              by_cases hl : l.length = l'.length
              · rw [Bool.and_eq_false_iff]
                left
                rw [Bool.eq_false_iff]
                intro hall
                refine ne ?_
                congr 1
                refine List.ext_getElem hl fun j h1 h2 => ?_
                have := List.all_eq_true.mp hall j (by simp; omega)
                have := sameD_iff.mp this
                simpa [List.getD, h1, h2] using this
              · rw [Bool.and_eq_false_iff]
                right
                simpa using hl
            · have e := sameD_iff.mp hs
              cases e
              simp [sameD_self]
          rw [fin] at key
          exact EqAt.of_refs hxy key
      | _ => simp [D.ptn] at hb
    | _ => simp [D.ptn] at ha
end
section
open PySem PySem.W PySem.Calls PyProof.Rows PySem.SeqAt
def Chg (s s' : Shared) : Prop := ∃ h tk, s' = { s with heap := h, toks := tk } ∧ Ext s.heap h
theorem Chg.refl (s : Shared) : Chg s s := ⟨s.heap, s.toks, rfl, fun _ _ e => e⟩
theorem Chg.trans {s s' s'' : Shared} (x : Chg s s') (y : Chg s' s'') : Chg s s'' := by
  obtain ⟨h, tk, rfl, e⟩ := x
  obtain ⟨h', tk', rfl, e'⟩ := y
  exact ⟨h', tk', rfl, fun b o q => e' b o (e b o q)⟩
theorem Chg.ext {s s' : Shared} (x : Chg s s') : Ext s.heap s'.heap := by obtain ⟨h, tk, rfl, e⟩ := x; exact e
theorem Chg.tok (s : Shared) (t : Nat) : Chg s { s with toks := t } := ⟨s.heap, t, rfl, fun _ _ e => e⟩
theorem Chg.push (s : Shared) (o : Obj) : Chg s { s with heap := s.heap.push o } := ⟨_, s.toks, rfl, fun _ _ e => Heap.get?_push_of_some _ e⟩
theorem Chg.push2 (s : Shared) (o : Obj) (t : Nat) : Chg s { s with heap := s.heap.push o, toks := t } := ⟨_, t, rfl, fun _ _ e => Heap.get?_push_of_some _ e⟩

/-- what an expression comes to -/
def Gv (Q : D → Prop) (s : Shared) (v : Value) (s' : Shared) : Prop := ∃ d, Rep s'.heap d v ∧ Q d ∧ Chg s s'

theorem Gv.int {Q : D → Prop} {s : Shared} {i : Int} {t : Nat} {t' : Tok} (h : Q (.int i)) : Gv Q s (.int i t') { s with toks := t } := ⟨.int i, ⟨_, rfl⟩, h, Chg.tok s t⟩
theorem Gv.bool {Q : D → Prop} {s : Shared} {b : Bool} (h : Q (.bool b)) : Gv Q s (.bool b) s := ⟨.bool b, rfl, h, Chg.refl s⟩

theorem isList_new {h : Heap} (vs : Array Value) : (h.push { cls := .type "list", data := .seq vs }).IsList h.objs.size vs := ⟨_, Heap.get?_push_size _ rfl, rfl, _, rfl⟩
theorem isTuple_new {h : Heap} (vs : Array Value) : (h.push { cls := .type "tuple", data := .seq vs }).IsTuple h.objs.size vs := ⟨_, Heap.get?_push_size _ rfl, rfl, _, rfl⟩
theorem Ext.push (h : Heap) (o : Obj) : Ext h (h.push o) := fun _ _ e => Heap.get?_push_of_some _ e

theorem Gv.list {Q : D → Prop} {s : Shared} {ds : List D} {vs : List Value} {t : Nat} (r : Reps s.heap ds vs) (h : Q (.list ds)) :
    Gv Q s (.ref s.heap.objs.size) { s with heap := s.heap.push { cls := .type "list", data := .seq vs.toArray }, toks := t } :=
  ⟨.list ds, ⟨_, _, rfl, isList_new _, Reps.keep (KeepSeq.of (Ext.push _ _)) _ _ r⟩, h, Chg.push2 s _ t⟩
theorem Gv.tup {Q : D → Prop} {s : Shared} {ds : List D} {vs : List Value} {t : Nat} (r : Reps s.heap ds vs) (h : Q (.tup ds)) :
    Gv Q s (.ref s.heap.objs.size) { s with heap := s.heap.push { cls := .type "tuple", data := .seq vs.toArray }, toks := t } :=
  ⟨.tup ds, ⟨_, _, rfl, isTuple_new _, Reps.keep (KeepSeq.of (Ext.push _ _)) _ _ r⟩, h, Chg.push2 s _ t⟩

open AutoSeq1 in
theorem list_add_meets (l : Addr) (items : Array Value) (n : Nat) (dd : Option Addr) (sl : Array (Option Value)) (b : Addr) (items2 : Array Value) (n2 : Nat) (dd2 : Option Addr) (sl2 : Array (Option Value)) (hc0 : items.size + items2.size ≤ sizeLine) :
    Meets (Builtin.«list.__add__» ⟨[.ref l, .ref b], []⟩) (fun _ R s => s.heap.get? l = some { cls := .type "list", dict := dd, data := .seq items n, slots := sl } ∧ s.heap.get? b = some { cls := .type "list", dict := dd2, data := .seq items2 n2, slots := sl2 } ∧ R (.ok (.ret (Value.ref s.heap.objs.size))) { s with heap := s.heap.push { cls := Value.type "list", data := Data.seq (items ++ items2) }, toks := s.toks }) :=
  .of_wp fun prog w A R s h => by obtain ⟨hp, g, d, tk, os⟩ := s; obtain ⟨hl, hb, h⟩ := h; have f1 := AutoSeq1.idx_int; have f2 := AutoSeq1.sub_tuple_tuple; have f3 := AutoSeq1.sub_list_list; have f4 := AutoSeq1.sub_tuple_list; have f5 := AutoSeq1.sub_list_tuple; wp_walk using wpAny_loadPart' hl, wpAny_loadPart' hb; exact ⟨_, rfl, h⟩

section
variable {prog : Program} {w : World} {A : Around} {E : Value → Shared → Prop} {s : Shared}

theorem add_lists {l b : Addr} {items items2 : Array Value} {Q : Value → Shared → Prop} (hl : s.heap.IsList l items) (hb : s.heap.IsList b items2) (hsz : items.size + items2.size ≤ sizeLine)
    (h : Q (.ref s.heap.objs.size) { s with heap := s.heap.push { cls := .type "list", data := .seq (items ++ items2) } }) : wpAny (model prog w) A (binaryOp .Add (.ref l) (.ref b)) Q E s := by
  obtain ⟨⟨cls, dd, data, sl⟩, ho, hc, n, hd⟩ := id hl
  obtain ⟨⟨cls2, dd2, data2, sl2⟩, ho2, hc2, n2, hd2⟩ := id hb
  simp only at hc hd hc2 hd2
  subst hc hd hc2 hd2
  exact concat_meets ⟨_, ho, rfl⟩ ⟨_, ho2, rfl⟩ noFill_list_add seq_list_add F.slot_list_add F.entry_list_add (F.args_list_add_2 _ _) (list_add_meets l items n dd sl b items2 n2 dd2 sl2 hsz) ⟨ho, ho2, h⟩

theorem small_fits {n : Nat} (h : n ≤ 100000) : n ≤ sizeLine := by rw [sizeLine_eq]; omega

theorem sBin {o : Operator} {x y : D} {Q : D → Prop} {v u : Value} (hb : dBin o x y Q) (rx : Rep s.heap x v) (ry : Rep s.heap y u) :
    wpAny (model prog w) A (binaryOp o v u) (Gv Q s) E s := by
  unfold dBin at hb
  split at hb
  · obtain ⟨t, rfl⟩ := rx; obtain ⟨t', rfl⟩ := ry
    exact add_int (Gv.int hb)
  · obtain ⟨hsz, hb⟩ := hb
    obtain ⟨a, vs, rfl, ta, ra⟩ := rx; obtain ⟨b, us, rfl, tb, rb⟩ := ry
    have l1 := Reps.length ra
    have l2 := Reps.length rb
    refine add_lists ta tb (small_fits (by simp only [List.size_toArray, l1, l2]; omega)) ?_
    have e : vs.toArray ++ us.toArray = (vs ++ us).toArray := by simp
    rw [e]
    exact Gv.list (t := s.toks) (Reps.append ra rb) hb
  · obtain ⟨t, rfl⟩ := rx; obtain ⟨t', rfl⟩ := ry
    exact PyProof.Rows.sub_int (Gv.int hb)
  · obtain ⟨t, rfl⟩ := rx; obtain ⟨t', rfl⟩ := ry
    exact PyProof.Rows.mul_int (Gv.int hb.2) hb.1
  · obtain ⟨t, rfl⟩ := rx; obtain ⟨t', rfl⟩ := ry
    exact floordiv_int hb.1 (Gv.int hb.2.2) (Or.inl hb.2.1)
  · obtain ⟨t, rfl⟩ := rx; obtain ⟨t', rfl⟩ := ry
    exact mod_int' hb.1 (Gv.int hb.2)
  · obtain ⟨t, rfl⟩ := rx; obtain ⟨t', rfl⟩ := ry
    exact pow_int hb.1 hb.2.1 (Gv.int hb.2.2)
  · obtain ⟨t, rfl⟩ := rx; obtain ⟨t', rfl⟩ := ry
    exact lshift_int hb.1 hb.2.1 (Gv.int hb.2.2)
  · obtain ⟨t, rfl⟩ := rx; obtain ⟨t', rfl⟩ := ry
    exact rshift_int hb.1 (Gv.int hb.2)
  · obtain ⟨t, rfl⟩ := rx; obtain ⟨t', rfl⟩ := ry
    exact and_int (Gv.int hb)
  · obtain ⟨t, rfl⟩ := rx; obtain ⟨t', rfl⟩ := ry
    exact xor_int (Gv.int hb)
  · exact hb.elim

-- an augmented assignment: of ints alone
theorem sAug {o : Operator} {x : Int} {y : D} {Q : D → Prop} {v u : Value} (hb : dBin o (.int x) y Q) (rx : Rep s.heap (.int x) v) (ry : Rep s.heap y u) :
    wpAny (model prog w) A (inplaceOp o v u) (Gv Q s) E s := by
  obtain ⟨t, rfl⟩ := rx
  unfold dBin at hb
  split at hb
  · rename_i e; cases e; obtain ⟨t', rfl⟩ := ry
    exact iadd_int (Gv.int hb)
  · rename_i e; cases e
  · rename_i e; cases e; obtain ⟨t', rfl⟩ := ry
    exact PyProof.Rows.isub_int (Gv.int hb)
  · rename_i e; cases e; obtain ⟨t', rfl⟩ := ry
    exact PyProof.Rows.imul_int (Gv.int hb.2) hb.1
  · rename_i e; cases e; obtain ⟨t', rfl⟩ := ry
    exact ifloordiv_int hb.1 (Gv.int hb.2.2) (Or.inl hb.2.1)
  · rename_i e; cases e; obtain ⟨t', rfl⟩ := ry
    exact imod_int hb.1 (Gv.int hb.2)
  · rename_i e; cases e; obtain ⟨t', rfl⟩ := ry
    exact ipow_int hb.1 hb.2.1 (Gv.int hb.2.2)
  · rename_i e; cases e; obtain ⟨t', rfl⟩ := ry
    exact ilshift_int hb.1 hb.2.1 (Gv.int hb.2.2)
  · rename_i e; cases e; obtain ⟨t', rfl⟩ := ry
    exact irshift_int hb.1 (Gv.int hb.2)
  · rename_i e; cases e; obtain ⟨t', rfl⟩ := ry
    exact iand_int (Gv.int hb)
  · rename_i e; cases e; obtain ⟨t', rfl⟩ := ry
    exact ixor_int (Gv.int hb)
  · exact hb.elim
end
end
section
open PySem PySem.W PySem.Calls PyProof.Rows PySem.SeqAt
/-- a comparison's answer -/
def Cv (P N : Prop) (s : Shared) (v : Value) (s' : Shared) : Prop := ∃ b, v = .bool b ∧ s' = s ∧ (b = true → P) ∧ (b = false → N)
theorem Cv.dec {P N : Prop} {s : Shared} {c : Prop} [Decidable c] (h : (c → P) ∧ (¬ c → N)) : Cv P N s (.bool (decide c)) s :=
  ⟨_, rfl, rfl, fun e => h.1 (of_decide_eq_true e), fun e => h.2 (of_decide_eq_false e)⟩

section
variable {prog : Program} {w : World} {A : Around} {E : Value → Shared → Prop} {s : Shared}

theorem reps_all {h : Heap} : ∀ {l : List D} {vs : List Value} {p : D → Bool}, Reps h l vs → l.all p = true → ∀ y ∈ vs, ∃ d ∈ l, p d = true ∧ Rep h d y
  | [], _, _, e, _, y, hy => by cases e; cases hy
  | d :: r, _, p, ⟨v, t, e, x, q⟩, ha, y, hy => by
    cases e
    simp only [List.all_cons, Bool.and_eq_true] at ha
    cases hy with
    | head => exact ⟨d, List.mem_cons_self, ha.1, x⟩
    | tail _ hy => obtain ⟨d', h1, h2⟩ := reps_all q ha.2 y hy; exact ⟨d', List.mem_cons_of_mem _ h1, h2⟩

theorem reps_mem {h : Heap} : ∀ {l : List D} {vs : List Value}, Reps h l vs → ∀ d ∈ l, ∃ y ∈ vs, Rep h d y
  | [], _, _, d, hd => by cases hd
  | d :: r, _, ⟨v, t, e, x, q⟩, d', hd => by
    cases e
    cases hd with
    | head => exact ⟨v, List.mem_cons_self, x⟩
    | tail _ hd => obtain ⟨y, h1, h2⟩ := reps_mem q d' hd; exact ⟨y, List.mem_cons_of_mem _ h1, h2⟩

theorem items_same {h : Heap} {l l' : List D} {vs ws : List Value} (rx : Reps h l vs) (ry : Reps h l' ws) :
    ((List.range (min vs.toArray.size ws.toArray.size)).all (fun j => sameD (l.getD j .none) (l'.getD j .none)) && vs.toArray.size == ws.toArray.size) = sameD (.tup l) (.tup l') := by
  have l1 := Reps.length rx
  have l2 := Reps.length ry
  simp only [List.size_toArray, l1, l2]
  cases hs : sameD (.tup l) (.tup l')
  · have ne := sameD_false.mp hs
    by_cases hl : l.length = l'.length
    · rw [Bool.and_eq_false_iff]
      left
      rw [Bool.eq_false_iff]
      intro hall
      refine ne ?_
      congr 1
      refine List.ext_getElem hl fun j h1 h2 => ?_
      have := List.all_eq_true.mp hall j (by simp; omega)
      have := sameD_iff.mp this
      simpa [List.getD, h1, h2] using this
    · rw [Bool.and_eq_false_iff]
      right
      simpa using hl
  · have e := sameD_iff.mp hs
    cases e
    simp [sameD_self]
theorem items_eqAt {n : Nat} {l l' : List D} {vs ws : List Value} (ha : l.all (D.ptn n) = true) (hb : l'.all (D.ptn n) = true) (rx : Reps s.heap l vs) (ry : Reps s.heap l' ws) (hu : A.units + n < cLine) :
    ∀ j (h1 : j < vs.toArray.size) (h2 : j < ws.toArray.size), EqAt A s vs.toArray[j] ws.toArray[j] (sameD (l.getD j .none) (l'.getD j .none)) := by
  intro j h1 h2
  have l1 := Reps.length rx
  have l2 := Reps.length ry
  have j1 : j < l.length := by simpa [l1] using h1
  have j2 : j < l'.length := by simpa [l2] using h2
  obtain ⟨v1, e1, r1⟩ := Reps.get rx (List.getElem?_eq_getElem j1)
  obtain ⟨v2, e2, r2⟩ := Reps.get ry (List.getElem?_eq_getElem j2)
  have h1' : j < vs.length := by simpa using h1
  have h2' : j < ws.length := by simpa using h2
  rw [List.getElem?_eq_getElem h1'] at e1
  rw [List.getElem?_eq_getElem h2'] at e2
  cases e1; cases e2
  have g1 : l.getD j .none = l[j] := by simp [List.getD, j1]
  have g2 : l'.getD j .none = l'[j] := by simp [List.getD, j2]
  simp only [g1, g2, List.getElem_toArray]
  exact eqAt_pt n _ _ A s _ _ (List.all_eq_true.mp ha _ (List.getElem_mem j1)) (List.all_eq_true.mp hb _ (List.getElem_mem j2)) r1 r2 hu

theorem eq_tup {l l' : List D} {v u : Value} (h1 : D.pts l = true) (h2 : D.pts l' = true) (rx : Rep s.heap (.tup l) v) (ry : Rep s.heap (.tup l') u) (hu : A.units + 10 < cLine) :
    RcAt A s v u (sameD (.tup l) (.tup l')) := by
  obtain ⟨x, vs, rfl, tx, rx⟩ := rx
  obtain ⟨y, ws, rfl, ty, ry⟩ := ry
  rw [← items_same rx ry]
  exact RcAt.tuples tx ty (by omega) (items_eqAt (n := 3) h1 h2 rx ry (by show A.units + 1 + 3 < cLine; omega))
theorem ne_tup {l l' : List D} {v u : Value} (h1 : D.pts l = true) (h2 : D.pts l' = true) (rx : Rep s.heap (.tup l) v) (ry : Rep s.heap (.tup l') u) (hu : A.units + 10 < cLine) :
    RcNeAt A s v u (!sameD (.tup l) (.tup l')) := by
  obtain ⟨x, vs, rfl, tx, rx⟩ := rx
  obtain ⟨y, ws, rfl, ty, ry⟩ := ry
  rw [← items_same rx ry]
  exact RcNeAt.tuples tx ty (by omega) (items_eqAt (n := 3) h1 h2 rx ry (by show A.units + 1 + 3 < cLine; omega))

theorem ptn_up : ∀ (n : Nat) (d : D), d.ptn n = true → d.ptn (n + 1) = true := by
  intro n
  induction n with
  | zero => intro d h; cases d <;> simp [D.ptn] at h ⊢
  | succ n ih =>
    intro d h
    cases d with
    | int i => simp [D.ptn]
    | tup l =>
      rw [D.ptn] at h ⊢
      exact List.all_eq_true.mpr fun x hx => ih x (List.all_eq_true.mp h x hx)
    | _ => simp [D.ptn] at h
open Classical in
noncomputable def inE (h : Heap) (v y : Value) : Bool := decide (∃ d : D, d.ptn 4 = true ∧ Rep h d y ∧ Rep h d v)
open Classical in
theorem inE_of {h : Heap} {d d' : D} {v y : Value} (p : d.ptn 4 = true) (p' : d'.ptn 4 = true) (r : Rep h d y) (r' : Rep h d' v) : inE h v y = sameD d d' := by
  unfold inE
  cases e : sameD d d'
  · refine decide_eq_false fun ⟨x, px, q, q'⟩ => sameD_false.mp e ?_
    rw [Rep.unique 4 d x y p px r q, Rep.unique 4 d' x v p' px r' q']
  · have := sameD_iff.mp e
    subst this
    exact decide_eq_true ⟨d, p, r, r'⟩

theorem sCmp {o : CmpOp} {x y : D} {P N : Prop} {v u : Value} (hb : dCmp o x y P N) (rx : Rep s.heap x v) (ry : Rep s.heap y u) (hu : A.units + 10 < cLine) :
    wpAny (model prog w) A (compareOp o v u) (Cv P N s) E s := by
  unfold dCmp at hb
  split at hb
  · obtain ⟨t, rfl⟩ := rx; obtain ⟨t', rfl⟩ := ry
    exact eq_int ⟨_, rfl, rfl, fun e => hb.1 (by simpa using e), fun e => hb.2 (by simpa using e)⟩
  · obtain ⟨t, rfl⟩ := rx; obtain ⟨t', rfl⟩ := ry
    exact ne_int ⟨_, rfl, rfl, fun e => hb.1 (by simpa using e), fun e => hb.2 (by simpa using e)⟩
  · obtain ⟨t, rfl⟩ := rx; obtain ⟨t', rfl⟩ := ry
    exact lt_int (Cv.dec hb)
  · obtain ⟨t, rfl⟩ := rx; obtain ⟨t', rfl⟩ := ry
    exact le_int (Cv.dec hb)
  · obtain ⟨t, rfl⟩ := rx; obtain ⟨t', rfl⟩ := ry
    exact gt_int (Cv.dec hb)
  · obtain ⟨t, rfl⟩ := rx; obtain ⟨t', rfl⟩ := ry
    exact ge_int (Cv.dec hb)
  · cases rx; cases ry
    exact RcAt.bool_bool _ _ prog w E _ ⟨_, rfl, rfl, fun e => hb.1 (by simpa using e), fun e => hb.2 (by simpa using e)⟩
  · obtain ⟨t, rfl⟩ := rx; obtain ⟨t', rfl⟩ := ry
    exact RcAt.str_str _ t _ t' prog w E _ ⟨_, rfl, rfl, fun e => hb.1 (by simpa using e), fun e => hb.2 (by simpa using e)⟩
  · obtain ⟨h1, h2, hp, hn⟩ := hb
    have key := eq_tup (A := A) (s := s) h1 h2 rx ry hu
    exact key prog w E _ ⟨_, rfl, rfl, fun e => hp (by have := sameD_iff.mp e; cases this; rfl), fun e => hn (by have := sameD_false.mp e; intro q; exact this (by rw [q]))⟩
  · obtain ⟨h1, h2, hp, hn⟩ := hb
    have key := ne_tup (A := A) (s := s) h1 h2 rx ry hu
    exact key prog w E _ ⟨_, rfl, rfl, fun e => hp (by have := sameD_false.mp (by simpa using e); intro q; exact this (by rw [q])), fun e => hn (by have := sameD_iff.mp (by simpa using e); cases this; rfl)⟩
  · obtain ⟨h1, h2, hp, hn⟩ := hb
    rename_i l l'
    obtain ⟨a, vs, rfl, ta, ra⟩ := ry
    have h1' : (D.tup l).ptn 4 = true := h1
    have up : ∀ {d : D}, d.ptn 3 = true → d.ptn 4 = true := fun {d} h => ptn_up 3 d h
    have key : ∀ y, y ∈ vs.toArray → EqAt A.in1 s y v (inE s.heap v y) := fun y hy => by
      obtain ⟨d, hd, pd, rd⟩ := reps_all ra h2 y (by simpa using hy)
      have := eqAt_pt 4 d (.tup l) A.in1 s y v (up pd) h1' rd rx (by show A.units + 1 + 4 < cLine; omega)
      rwa [inE_of (up pd) h1' rd rx]
    refine in_listAt (inE s.heap v) ta key ⟨_, rfl, rfl, fun e => hp ?_, fun e => hn fun hm => ?_⟩
    · obtain ⟨y, hy, ye⟩ := Array.any_eq_true'.mp e
      obtain ⟨d, hd, pd, rd⟩ := reps_all ra h2 y (by simpa using hy)
      rw [inE_of (up pd) h1' rd rx] at ye
      exact sameD_iff.mp ye ▸ hd
    · obtain ⟨y, hy, ry⟩ := reps_mem ra _ hm
      have : inE s.heap v y = true := by rw [inE_of h1' h1' ry rx]; exact sameD_self _
      have h9 := Array.any_eq_false'.mp e y (by simpa using hy)
      exact h9 this
  · exact hb.elim
end
end
section
open PySem PySem.W PySem.Calls PyProof.Rows PySem.SeqAt
/-- the ground: the program, the world, the written part, the top's names -/
structure Cx where
  prog : Program
  w : World
  K : Frag
  p : Program
  loose : List Str
  mg : Str → Option Value
  mb : Str → Option Value

structure Wd (c : Cx) (h : Heap) : Prop where
  k : c.K.In h
  t : TopRead c.p c.loose c.mg c.mb h
  bi : ∀ x ∈ builtinsUsed, nsIn c.K mainGlobals x = some none
theorem Wd.ext {c : Cx} {h h' : Heap} (x : Wd c h) (k : Ext h h') : Wd c h' := ⟨x.k.keeps k, x.t.keeps k, x.bi⟩

structure Ok (n : Nat) (A : Around) : Prop where
  hd : A.handled = none
  dp : A.depth + n < 900
  un : A.units + 20 * n + 60 < 9900
theorem Ok.cl {n : Nat} {A : Around} (x : Ok n A) : A.units + 10 < cLine := by have := x.un; rw [show cLine = 9900 from rfl]; omega
theorem Ok.deeper {n : Nat} {A : Around} (x : Ok (n + 1) A) (env : Env) : Ok n (A.deeper env) :=
  ⟨x.hd, by have := x.dp; show A.depth + 1 + n < 900; omega, by have := x.un; show A.units + 3 + 20 * n + 60 < 9900; omega⟩
theorem Ok.mono {n m : Nat} {A : Around} (x : Ok m A) (h : n ≤ m) : Ok n A := ⟨x.hd, by have := x.dp; omega, by have := x.un; omega⟩

/-- the name is a def of the text's -/
def FnIs (c : Cx) (f : Str) : Prop := ∃ a o fd, nsIn c.K mainGlobals f = some (some (.ref a)) ∧ c.K.lookup a = some o ∧ o.data = .func fd

/-- a call of a def of the text's, with values that bear ds, gives a value that bears d -/
def Tell (c : Cx) (n : Nat) (f : Str) (ds : List D) (d : D) : Prop :=
  ∀ a, nsIn c.K mainGlobals f = some (some (.ref a)) →
    ∀ (A : Around) (E : Value → Shared → Prop) (s : Shared) (vs : List Value), Wd c s.heap → Ok n A → Reps s.heap ds vs →
      wpAny (model c.prog c.w) A (call (.ref a) vs) (Gv (· = d) s) E s
theorem Tell.mono {c : Cx} {n m : Nat} {f : Str} {ds : List D} {d : D} (x : Tell c n f ds d) (h : n ≤ m) : Tell c m f ds d :=
  fun a e A E s vs hw hk hr => x a e A E s vs hw (hk.mono h) hr

def GIs (c : Cx) (n : Str) (d : D) : Prop := ∃ v, nsIn c.K mainGlobals n = some (some v) ∧ ∀ h, c.K.In h → Rep h d v
def GDs (c : Cx) (g k : Str) (d : D) : Prop := ∃ a, nsIn c.K mainGlobals g = some (some (.ref a)) ∧ (∀ s : Shared, c.K.In s.heap → s.TypeIs (.ref a) "dict") ∧
  ∀ (A : Around) (E : Value → Shared → Prop) (s : Shared) (t : Tok), Wd c s.heap → A.handled = none → wpAny (model c.prog c.w) A (getItem (.ref a) (.str k t)) (Gv (· = d) s) E s

theorem Gv.from {Q : D → Prop} {s s₁ s' : Shared} {v : Value} (c : Chg s s₁) (x : Gv Q s₁ v s') : Gv Q s v s' := by
  obtain ⟨d, r, q, k⟩ := x
  exact ⟨d, r, q, c.trans k⟩
theorem Gv.mono {Q Q' : D → Prop} {s s' : Shared} {v : Value} (x : Gv Q s v s') (h : ∀ d, Q d → Q' d) : Gv Q' s v s' := by
  obtain ⟨d, r, q, k⟩ := x
  exact ⟨d, r, h d q, k⟩
theorem Rep.ext {h h' : Heap} {d : D} {v : Value} (r : Rep h d v) (k : Ext h h') : Rep h' d v := Rep.keep (KeepSeq.of k) d v r
theorem Reps.ext {h h' : Heap} {d : List D} {v : List Value} (r : Reps h d v) (k : Ext h h') : Reps h' d v := Reps.keep (KeepSeq.of k) d v r

structure EnvOk (env : Env) : Prop where
  g : env.globals = mainGlobals
  b : env.builtins = builtinsNs
  k : env.scope.kind = .function

theorem nIdx_inj {nm : Names} {x y : Str} {i : Nat} (h : nIdx nm x = some i) (h' : nIdx nm y = some i) : x = y := by
  unfold nIdx at h h'
  rw [List.findIdx?_eq_some_iff_getElem] at h h'
  obtain ⟨hi, h1, _⟩ := h
  obtain ⟨_, h2, _⟩ := h'
  rw [← eq_of_beq h1, ← eq_of_beq h2]

theorem look_put {ρ : Rho} {i j : Nat} {d d' : D} (h : look (put ρ i d) j = some d') : (j = i ∧ d' = d) ∨ (j ≠ i ∧ look ρ j = some d') := by
  induction ρ generalizing i j with
  | nil => simp [put, look] at h
  | cons x r ih =>
    cases i with
    | zero =>
      cases j with
      | zero => simp [put, look] at h; exact .inl ⟨rfl, h.symm⟩
      | succ j => simp [put, look] at h; exact .inr ⟨by omega, by simpa [look] using h⟩
    | succ i =>
      cases j with
      | zero => simp [put, look] at h; exact .inr ⟨by omega, by simpa [look] using h⟩
      | succ j =>
        simp only [put, look] at h
        rcases ih h with ⟨h1, h2⟩ | ⟨h1, h2⟩
        · exact .inl ⟨by omega, h2⟩
        · exact .inr ⟨by omega, by simpa [look] using h2⟩

/-- the frame bears ρ -/
structure SR (c : Cx) (h₀ : Heap) (env : Env) (ρ : Rho) (h : Heap) : Prop where
  w : Wd c h₀
  keep : Ext h₀ h
  loc : h₀.get? env.locals = none
  ns : ∃ m, h.Ns env.locals m ∧ ∀ x i d, nIdx env.scope.names x = some i → look ρ i = some d → env.scope.names.lookup x = some .local → ∃ v, m x = some v ∧ Rep h d v
  cell : ∀ x i d, nIdx env.scope.names x = some i → look ρ i = some d → (env.scope.names.lookup x = some .cell ∨ env.scope.names.lookup x = some .free) → ∃ a v, env.cells.lookup x = some a ∧ h.IsCell a (some v) ∧ Rep h d v
  cells : ∀ x, env.scope.names.lookup x = some .cell → ∃ a, env.cells.lookup x = some a ∧ h₀.get? a = none
  live : ∀ x a, env.cells.lookup x = some a → ∃ v, h.IsCell a v
  apart : ∀ x y a, env.cells.lookup x = some a → env.cells.lookup y = some a → x = y

theorem SR.wd {c : Cx} {h₀ h : Heap} {env : Env} {ρ : Rho} (x : SR c h₀ env ρ h) : Wd c h := x.w.ext x.keep

theorem SR.move {c : Cx} {h₀ h h' : Heap} {env : Env} {ρ : Rho} (x : SR c h₀ env ρ h) (k₀ : Ext h₀ h') (ks : KeepSeq h h') (hl : ∀ o, h.get? env.locals = some o → h'.get? env.locals = some o)
    (hc : ∀ y a o, env.cells.lookup y = some a → h.get? a = some o → h'.get? a = some o) : SR c h₀ env ρ h' := by
  refine ⟨x.w, k₀, x.loc, ?_, ?_, x.cells, ?_, x.apart⟩
  · obtain ⟨m, ⟨o, es, ep, ho, r⟩, hm⟩ := x.ns
    exact ⟨m, ⟨o, es, ep, hl o ho, r⟩, fun y i d h1 h2 h3 => by obtain ⟨v, e, r⟩ := hm y i d h1 h2 h3; exact ⟨v, e, Rep.keep ks _ _ r⟩⟩
  · intro y i d h1 h2 h3
    obtain ⟨a, v, e, ⟨o, ho, hd⟩, r⟩ := x.cell y i d h1 h2 h3
    exact ⟨a, v, e, ⟨o, hc y a o e ho, hd⟩, Rep.keep ks _ _ r⟩
  · intro y a e
    obtain ⟨v, o, ho, hd⟩ := x.live y a e
    exact ⟨v, o, hc y a o e ho, hd⟩
theorem SR.ext {c : Cx} {h₀ h h' : Heap} {env : Env} {ρ : Rho} (x : SR c h₀ env ρ h) (k : Ext h h') : SR c h₀ env ρ h' :=
  x.move (fun b o e => k b o (x.keep b o e)) (KeepSeq.of k) (fun o e => k _ o e) fun _ _ o _ e => k _ o e

theorem keepSeq_ns {h h' : Heap} {L : Addr} {m : Str → Option Value} (hn : h.Ns L m) (hs : Heap.SameBut L h h') : KeepSeq h h' := by
  obtain ⟨o, es, ep, ho, hd, _⟩ := hn
  constructor <;> rintro a xs ⟨o', ho', hc, n, hd'⟩ <;> refine ⟨o', (hs.2 a ?_).trans ho', hc, n, hd'⟩ <;> rintro rfl <;> rw [ho] at ho' <;> cases ho' <;> rw [hd] at hd' <;> cases hd'
theorem keepSeq_cell {h h' : Heap} {L : Addr} {v : Option Value} (hn : h.IsCell L v) (hs : Heap.SameBut L h h') : KeepSeq h h' := by
  obtain ⟨o, ho, hd⟩ := hn
  constructor <;> rintro a xs ⟨o', ho', hc, n, hd'⟩ <;> refine ⟨o', (hs.2 a ?_).trans ho', hc, n, hd'⟩ <;> rintro rfl <;> rw [ho] at ho' <;> cases ho' <;> rw [hd] at hd' <;> cases hd'

theorem cell_ne_ns {h : Heap} {a L : Addr} {v : Option Value} {m : Str → Option Value} (hc : h.IsCell a v) (hn : h.Ns L m) : a ≠ L := by
  rintro rfl
  obtain ⟨o, es, ep, ho, hd, _⟩ := hn
  obtain ⟨o', ho', hd'⟩ := hc
  rw [ho] at ho'; cases ho'
  rw [hd] at hd'; cases hd'

section
variable {c : Cx} {A : Around} {E : Value → Shared → Prop} {s : Shared} {h₀ : Heap} {env : Env} {ρ : Rho}

theorem kindOf_eq (env : Env) (x : Str) : env.kindOf x = env.scope.names.lookup x := rfl

/-- a store into a local name -/
theorem sStoreL' {x : Str} {i : Nat} {d : D} {v : Value} (R : SR c h₀ env ρ s.heap) (ek : EnvOk env) (hl : env.scope.names.lookup x = some .local) (hi : nIdx env.scope.names x = some i) (hr : Rep s.heap d v) :
    wpAny (model c.prog c.w) A (storeName env x v) (fun _ s' => ∃ h tk, s' = { s with heap := h, toks := tk } ∧ Heap.SameBut env.locals s.heap h ∧ KeepSeq s.heap h ∧ SR c h₀ env (put ρ i d) h) E s := by
  obtain ⟨m, hn, hm⟩ := R.ns
  refine wpAny_storeName_local hl hn (fun h' hn' hs' => ?_) (by rw [ek.k]; rfl)
  have ks := keepSeq_ns hn hs'
  refine ⟨h', _, rfl, hs', ks, R.w, ?_, R.loc, ⟨_, hn', ?_⟩, ?_, R.cells, ?_, R.apart⟩
  · intro b o e
    exact hs'.extBut b o (by rintro rfl; rw [R.loc] at e; cases e) (R.keep b o e)
  · intro y j d' h1 h2 h3
    rcases look_put h2 with ⟨rfl, rfl⟩ | ⟨ne, h2⟩
    · have := nIdx_inj h1 hi; subst this
      exact ⟨v, by simp, Rep.keep ks _ _ hr⟩
    · have hyx : y ≠ x := by rintro rfl; rw [hi] at h1; cases h1; exact ne rfl
      obtain ⟨u, e, r⟩ := hm y j d' h1 h2 h3
      exact ⟨u, by simp [hyx, e], Rep.keep ks _ _ r⟩
  · intro y j d' h1 h2 h3
    rcases look_put h2 with ⟨rfl, rfl⟩ | ⟨ne, h2⟩
    · have := nIdx_inj h1 hi; subst this
      rw [hl] at h3; rcases h3 with h3 | h3 <;> cases h3
    · obtain ⟨a, u, e, q, r⟩ := R.cell y j d' h1 h2 h3
      exact ⟨a, u, e, q.sameBut hs' (cell_ne_ns q hn), Rep.keep ks _ _ r⟩
  · intro y a e
    obtain ⟨u, q⟩ := R.live y a e
    exact ⟨u, q.sameBut hs' (cell_ne_ns q hn)⟩

theorem sStoreL {x : Str} {i : Nat} {d : D} {v : Value} (R : SR c h₀ env ρ s.heap) (ek : EnvOk env) (hl : env.scope.names.lookup x = some .local) (hi : nIdx env.scope.names x = some i) (hr : Rep s.heap d v) :
    wpAny (model c.prog c.w) A (bindName env x v) (fun _ s' => ∃ h tk, s' = { s with heap := h, toks := tk } ∧ Heap.SameBut env.locals s.heap h ∧ KeepSeq s.heap h ∧ SR c h₀ env (put ρ i d) h) E s := wpAny_bindName (sStoreL' R ek hl hi hr)

/-- a store into a cell -/
theorem sStoreC' {x : Str} {i : Nat} {d : D} {v : Value} (R : SR c h₀ env ρ s.heap) (ek : EnvOk env) (hl : env.scope.names.lookup x = some .cell) (hi : nIdx env.scope.names x = some i) (hr : Rep s.heap d v) :
    wpAny (model c.prog c.w) A (storeName env x v) (fun _ s' => ∃ h tk a, s' = { s with heap := h, toks := tk } ∧ env.cells.lookup x = some a ∧ Heap.SameBut a s.heap h ∧ SR c h₀ env (put ρ i d) h) E s := by
  obtain ⟨m, hn, hm⟩ := R.ns
  obtain ⟨a, ha, hf⟩ := R.cells x hl
  obtain ⟨v₀, hc⟩ := R.live x a ha
  refine wpAny_storeName_cell ek.k hl ha hc (fun h' hc' hs' => ?_)
  have ks := keepSeq_cell hc hs'
  refine ⟨h', s.toks, a, rfl, ha, hs', R.w, ?_, R.loc, ⟨m, hn.sameBut hs' (Ne.symm (cell_ne_ns hc hn)), ?_⟩, ?_, R.cells, ?_, R.apart⟩
  · intro b o e
    exact hs'.extBut b o (by rintro rfl; rw [hf] at e; cases e) (R.keep b o e)
  · intro y j d' h1 h2 h3
    rcases look_put h2 with ⟨rfl, rfl⟩ | ⟨ne, h2⟩
    · have := nIdx_inj h1 hi; subst this
      rw [hl] at h3; cases h3
    · obtain ⟨u, e, r⟩ := hm y j d' h1 h2 h3
      exact ⟨u, e, Rep.keep ks _ _ r⟩
  · intro y j d' h1 h2 h3
    rcases look_put h2 with ⟨rfl, rfl⟩ | ⟨ne, h2⟩
    · have := nIdx_inj h1 hi; subst this
      exact ⟨a, v, ha, hc', Rep.keep ks _ _ hr⟩
    · obtain ⟨b, u, e, q, r⟩ := R.cell y j d' h1 h2 h3
      have hyx : y ≠ x := by rintro rfl; rw [hi] at h1; cases h1; exact ne rfl
      exact ⟨b, u, e, q.sameBut hs' (by rintro rfl; exact hyx (R.apart _ _ _ e ha)), Rep.keep ks _ _ r⟩
  · intro y b e
    by_cases hb : b = a
    · subst hb; exact ⟨_, hc'⟩
    · obtain ⟨u, q⟩ := R.live y b e
      exact ⟨u, q.sameBut hs' hb⟩

theorem plainName_parts {x : Str} (h : plainName x = true) : (x == ("__debug__" : Str)) = false ∧ (x == ("__classdict__" : Str)) = false ∧ x ≠ ("__name__" : Str) := by
  unfold plainName at h
  simp only [Bool.and_eq_true, Bool.not_eq_true'] at h
  exact ⟨h.1.1, h.1.2, by intro e; rw [e] at h; simp at h⟩

theorem cVar_parts {nm : Names} {x : Str} {i : Nat} (h : cVar nm x = some i) : plainName x = true ∧ isVar (nm.lookup x) = true ∧ nIdx nm x = some i := by
  unfold cVar at h
  split at h
  · rename_i q
    simp only [Bool.and_eq_true] at q
    exact ⟨q.1, q.2, h⟩
  · cases h

theorem sVar {x : Str} {pos : Pos} {i : Nat} {d : D} (R : SR c h₀ env ρ s.heap) (ek : EnvOk env) (hi : cVar env.scope.names x = some i) (hd : look ρ i = some d) :
    wpAny (model c.prog c.w) A (eval (.Name x pos) env) (Gv (· = d) s) E s := by
  obtain ⟨hp, hv, hx⟩ := cVar_parts hi
  obtain ⟨p1, p2, p3⟩ := plainName_parts hp
  cases hk : env.scope.names.lookup x with
  | none => rw [hk] at hv; cases hv
  | some k =>
    rw [hk] at hv
    cases k <;> simp [isVar] at hv
    · obtain ⟨m, hn, hm⟩ := R.ns
      obtain ⟨v, e, r⟩ := hm x i d hx hd hk
      exact wpAny_Name (wpAny_loadName_local ek.k hk hn e ⟨d, r, rfl, Chg.refl s⟩) p1
    all_goals first
      | (obtain ⟨a, v, e, q, r⟩ := R.cell x i d hx hd (.inl hk); exact wpAny_Name (wpAny_loadName_cell ek.k hk e q ⟨d, r, rfl, Chg.refl s⟩) p1)
      | (obtain ⟨a, v, e, q, r⟩ := R.cell x i d hx hd (.inr hk); exact wpAny_Name (wpAny_loadName_free ek.k hk e q ⟨d, r, rfl, Chg.refl s⟩ p2) p1)

theorem isGlob_parts {nm : Names} {x : Str} (h : isGlob nm x = true) : plainName x = true ∧ nm.lookup x = some .globalImplicit := by
  unfold isGlob at h
  simp only [Bool.and_eq_true, beq_iff_eq] at h
  exact h

theorem sGlobal {x : Str} {pos : Pos} {v : Value} {Q : Value → Shared → Prop} (R : SR c h₀ env ρ s.heap) (ek : EnvOk env) (hg : isGlob env.scope.names x = true) (hv : nsIn c.K mainGlobals x = some (some v)) (h : Q v s) :
    wpAny (model c.prog c.w) A (eval (.Name x pos) env) Q E s := by
  obtain ⟨hp, hk⟩ := isGlob_parts hg
  obtain ⟨p1, p2, p3⟩ := plainName_parts hp
  exact Name_function_global ek.k hk (loadGlobal_global (by rw [ek.g]; exact R.wd.t.g) (mg_of R.wd.k R.wd.t.g hv) h) p1

theorem sBuiltin {x : Str} {pos : Pos} {v : Value} {Q : Value → Shared → Prop} (R : SR c h₀ env ρ s.heap) (ek : EnvOk env) (hg : isGlob env.scope.names x = true) (hx : x ∈ builtinsUsed) (hb : bootBuiltins x = some v) (h : Q v s) :
    wpAny (model c.prog c.w) A (eval (.Name x pos) env) Q E s := by
  obtain ⟨hp, hk⟩ := isGlob_parts hg
  obtain ⟨p1, p2, p3⟩ := plainName_parts hp
  exact Name_function_global ek.k hk (loadGlobal_builtin (by rw [ek.g]; exact R.wd.t.g) (mg_none_of R.wd.k R.wd.t.g (R.wd.bi x hx)) (by rw [ek.b]; exact R.wd.t.b) ((R.wd.t.builtins x p3).trans hb) h) p1
end
end
section
open PySem PySem.W PySem.Calls PyProof.Rows PySem.SeqAt
def Tv (P N : Prop) (s : Shared) (b : Bool) (s' : Shared) : Prop := Chg s s' ∧ (b = true → P) ∧ (b = false → N)
def Lv (m : Nat) (Q : List D → Prop) (s : Shared) (vs : List Value) (s' : Shared) : Prop := ∃ ds, Reps s'.heap ds vs ∧ Q ds ∧ Chg s s' ∧ vs.length = m

section
variable {M : Model} {A : Around} {E : Value → Shared → Prop} {s : Shared}
theorem thenE {t : Sem Value} {Q' : D → Prop} {Post : Value → Shared → Prop} (h : wpAny M A t (Gv Q' s) E s)
    (k : ∀ v s₁ d, Rep s₁.heap d v → Q' d → Chg s s₁ → Post v s₁) : wpAny M A t Post E s :=
  wpAny_mono h (fun v s₁ ⟨d, r, q, c⟩ => k v s₁ d r q c) fun _ _ x => x
theorem thenL {t : Sem (List Value)} {m : Nat} {Q' : List D → Prop} {Post : List Value → Shared → Prop} (h : wpAny M A t (Lv m Q' s) E s)
    (k : ∀ v s₁ d, Reps s₁.heap d v → Q' d → Chg s s₁ → v.length = m → Post v s₁) : wpAny M A t Post E s :=
  wpAny_mono h (fun v s₁ ⟨d, r, q, c, l⟩ => k v s₁ d r q c l) fun _ _ x => x
end

section
variable {prog : Program} {w : World} {A : Around} {E : Value → Shared → Prop} {s : Shared}
theorem sTruth {d : D} {P N : Prop} {v : Value} (h : dTruth d P N) (r : Rep s.heap d v) : wpAny (model prog w) A (truthy v) (Tv P N s) E s := by
  unfold dTruth at h
  split at h
  · obtain ⟨t, rfl⟩ := r
    exact truthy_int ⟨Chg.refl s, fun e => h.1 (by simpa using e), fun e => h.2 (by simpa using e)⟩
  · cases r
    exact wpAny_truthy_bool ⟨Chg.refl s, h.1, h.2⟩
  · exact h.elim
end

theorem star_cons {e : Expr} {rest : List Expr} {env : Env} (h : notStar e = true) : starEach (e :: rest) env = (false, eval e env) :: starEach rest env := by
  cases e <;> first | rfl | (simp [notStar] at h)
theorem star_plain {pos : Pos} {env : Env} : ∀ {es : List Expr}, es.all notStar = true → (backTo pos (starEach es env)).any (·.1) = false
  | [], _ => rfl
  | e :: r, h => by
    simp only [List.all_cons, Bool.and_eq_true] at h
    rw [star_cons h.1]
    show (false || (backTo pos (starEach r env)).any (·.1)) = false
    rw [star_plain h.2]; rfl

section
variable (c : Cx) (n : Nat)
abbrev qE (e : PE) (ρ : Rho) (Q : D → Prop) : Prop := pE (FnIs c) (Tell c n) (GIs c) (GDs c) e ρ Q
abbrev qL (e : PE) (ρ : Rho) (Q : List D → Prop) : Prop := pL (FnIs c) (Tell c n) (GIs c) (GDs c) e ρ Q
abbrev qT (e : PE) (ρ : Rho) (P N : Prop) : Prop := pT (FnIs c) (Tell c n) (GIs c) (GDs c) e ρ P N
def SE (k : Nat) : Prop := ∀ (e : Expr) (env : Env) (ρ : Rho) (Q : D → Prop) (A : Around) (E : Value → Shared → Prop) (s : Shared) (h₀ : Heap), EnvOk env → SR c h₀ env ρ s.heap → Ok n A →
  qE c n (cE k env.scope.names e) ρ Q → wpAny (model c.prog c.w) A (eval e env) (Gv Q s) E s
def SL (k : Nat) : Prop := ∀ (es : List Expr) (env : Env) (ρ : Rho) (Q : List D → Prop) (A : Around) (E : Value → Shared → Prop) (s : Shared) (h₀ : Heap) (pos : Pos), EnvOk env → SR c h₀ env ρ s.heap → Ok n A → es.all notStar = true →
  qL c n (cL k env.scope.names es) ρ Q → wpAny (model c.prog c.w) A (spliced (backTo pos (starEach es env))) (Lv es.length Q s) E s
def ST (k : Nat) : Prop := ∀ (e : Expr) (env : Env) (ρ : Rho) (P N : Prop) (A : Around) (E : Value → Shared → Prop) (s : Shared) (h₀ : Heap), EnvOk env → SR c h₀ env ρ s.heap → Ok n A →
  qT c n (cT k env.scope.names e) ρ P N → wpAny (model c.prog c.w) A (isTrue e env (eval e env)) (Tv P N s) E s
def SB (k : Nat) : Prop := ∀ (op : BoolOp) (es : List Expr) (env : Env) (ρ : Rho) (P N : Prop) (A : Around) (E : Value → Shared → Prop) (s : Shared) (h₀ : Heap), EnvOk env → SR c h₀ env ρ s.heap → Ok n A →
  qT c n (cB k env.scope.names op es) ρ P N → wpAny (model c.prog c.w) A (allTrue op es env) (Tv P N s) E s
/-- the comprehensions -/
def SC (k : Nat) : Prop := ∀ (e : Expr) (env : Env) (ρ : Rho) (Q : D → Prop) (A : Around) (E : Value → Shared → Prop) (s : Shared) (h₀ : Heap), EnvOk env → SR c h₀ env ρ s.heap → Ok n A → notComp e = false →
  qE c n (cE k env.scope.names e) ρ Q → wpAny (model c.prog c.w) A (eval e env) (Gv Q s) E s
end

section
variable {c : Cx} {n k : Nat}

theorem stepL (hE : SE c n k) (hL : SL c n k) : SL c n (k + 1) := by
  intro es env ρ Q A E s h₀ pos ek R ok hs h
  cases es with
  | nil =>
    simp only [cL, qL, pL] at h
    exact spliced_nil ⟨[], rfl, h, Chg.refl s, rfl⟩
  | cons e r =>
    simp only [List.all_cons, Bool.and_eq_true] at hs
    simp only [cL, qL, pL] at h
    rw [star_cons hs.1]
    refine spliced_cons (thenE (hE e env ρ _ A E s h₀ ek R ok h) fun v s₁ d rd q ch => ?_)
    refine thenL (hL r env ρ _ A E s₁ h₀ pos ek (R.ext ch.ext) ok hs.2 q) fun vs s₂ ds rds q₂ ch₂ ln => ?_
    exact ⟨d :: ds, ⟨v, vs, rfl, rd.ext ch₂.ext, rds⟩, q₂, ch.trans ch₂, by simp [ln]⟩

theorem Tv.from {P N : Prop} {s s₁ s' : Shared} {b : Bool} (ch : Chg s s₁) (x : Tv P N s₁ b s') : Tv P N s b s' := ⟨ch.trans x.1, x.2⟩

theorem stepB (hT : ST c n k) (hB : SB c n k) : SB c n (k + 1) := by
  intro op es env ρ P N A E s h₀ ek R ok h
  unfold cB at h
  split at h
  · rename_i x y
    simp only [qT, pT] at h
    refine wpAny_allTrue_And_cons (wpAny_mono (hT x env ρ _ _ A E s h₀ ek R ok h) (fun b s₁ t => ?_) fun _ _ x => x)
    cases b with
    | false => exact ⟨t.1, fun e => (nomatch e), fun _ => t.2.2 rfl⟩
    | true =>
      refine wpAny_allTrue_And_cons (wpAny_mono (hT y env ρ _ _ A E s₁ h₀ ek (R.ext t.1.ext) ok (t.2.1 rfl)) (fun b s₂ t₂ => ?_) fun _ _ x => x)
      cases b with
      | false => exact ⟨t.1.trans t₂.1, fun e => (nomatch e), fun _ => t₂.2.2 rfl⟩
      | true => exact wpAny_allTrue_And_nil ⟨t.1.trans t₂.1, fun _ => t₂.2.1 rfl, fun e => (nomatch e)⟩
  · rename_i x y
    simp only [qT, pT] at h
    refine wpAny_allTrue_Or_cons (wpAny_mono (hT x env ρ _ _ A E s h₀ ek R ok h) (fun b s₁ t => ?_) fun _ _ x => x)
    cases b with
    | true => exact ⟨t.1, fun _ => t.2.1 rfl, fun e => (nomatch e)⟩
    | false =>
      refine wpAny_allTrue_Or_cons (wpAny_mono (hT y env ρ _ _ A E s₁ h₀ ek (R.ext t.1.ext) ok (t.2.2 rfl)) (fun b s₂ t₂ => ?_) fun _ _ x => x)
      cases b with
      | true => exact ⟨t.1.trans t₂.1, fun _ => t₂.2.1 rfl, fun e => (nomatch e)⟩
      | false => exact wpAny_allTrue_Or_nil ⟨t.1.trans t₂.1, fun e => (nomatch e), fun _ => t₂.2.2 rfl⟩
  · rename_i x y z r
    simp only [qT, pT] at h
    refine wpAny_allTrue_And_cons (wpAny_mono (hT x env ρ _ _ A E s h₀ ek R ok h) (fun b s₁ t => ?_) fun _ _ x => x)
    cases b with
    | false => exact ⟨t.1, fun e => (nomatch e), fun _ => t.2.2 rfl⟩
    | true => exact wpAny_mono (hB .And (y :: z :: r) env ρ _ _ A E s₁ h₀ ek (R.ext t.1.ext) ok (t.2.1 rfl)) (fun b s₂ t₂ => Tv.from t.1 t₂) fun _ _ x => x
  · rename_i x y z r
    simp only [qT, pT] at h
    refine wpAny_allTrue_Or_cons (wpAny_mono (hT x env ρ _ _ A E s h₀ ek R ok h) (fun b s₁ t => ?_) fun _ _ x => x)
    cases b with
    | true => exact ⟨t.1, fun _ => t.2.1 rfl, fun e => (nomatch e)⟩
    | false => exact wpAny_mono (hB .Or (y :: z :: r) env ρ _ _ A E s₁ h₀ ek (R.ext t.1.ext) ok (t.2.2 rfl)) (fun b s₂ t₂ => Tv.from t.1 t₂) fun _ _ x => x
  · simp only [qT, pT] at h
end

section
variable {c : Cx} {n k : Nat}

theorem cvTv {P N : Prop} {prog : Program} {w : World} {A : Around} {E : Value → Shared → Prop} {s s₁ : Shared} {v : Value} (ch : Chg s s₁) {s' : Shared} (x : Cv P N s₁ v s') : wpAny (model prog w) A (truthy v) (Tv P N s) E s' := by
  obtain ⟨b, rfl, rfl, h1, h2⟩ := x
  exact wpAny_truthy_bool ⟨ch, h1, h2⟩

theorem stepT (hE : SE c n k) (hT : ST c n k) (hB : SB c n k) : ST c n (k + 1) := by
  intro e env ρ P N A E s h₀ ek R ok h
  unfold cT at h
  split at h
  · rename_i x pos
    simp only [qT, pT] at h
    exact wpAny_isTrue_Not (wpAny_mono (hT x env ρ _ _ A E s h₀ ek R ok h) (fun b s₁ t => ⟨t.1, fun e => t.2.2 (by simpa using e), fun e => t.2.1 (by simpa using e)⟩) fun _ _ x => x)
  · exact wpAny_isTrue_BoolOp (hB _ _ env ρ _ _ A E s h₀ ek R ok h)
  · rename_i l o r pos
    split at h
    · simp only [qT, pT] at h
    · rename_i hb
      simp only [qT, pT] at h
      refine wpAny_isTrue_Compare1 (thenE (hE l env ρ _ A E s h₀ ek R ok h) fun a s₁ d rd q ch => ?_) (by simpa using hb)
      refine thenE (hE r env ρ _ A E s₁ h₀ ek (R.ext ch.ext) ok q) fun b s₂ d₂ rd₂ q₂ ch₂ => ?_
      exact wpAny_mono (sCmp q₂ (rd.ext ch₂.ext) rd₂ ok.cl) (fun v s₃ x => cvTv (ch.trans ch₂) x) fun _ _ x => x
  · rename_i l o₁ o₂ m r pos
    split at h
    · simp only [qT, pT] at h
    · rename_i hb
      simp only [Bool.or_eq_true, not_or, Bool.not_eq_true] at hb
      simp only [qT, pT] at h
      refine isTrue_chain (rs := []) (thenE (hE l env ρ _ A E s h₀ ek R ok h) fun a s₁ d rd q ch => ?_) hb.2
      refine test_link (thenE (hE m env ρ _ A E s₁ h₀ ek (R.ext ch.ext) ok q) fun b s₂ d₂ rd₂ q₂ ch₂ => ?_)
      refine wpAny_mono (sCmp q₂ (rd.ext ch₂.ext) rd₂ ok.cl) (fun v s₃ x => ?_) fun _ _ x => x
      obtain ⟨b', rfl, rfl, h1, h2⟩ := x
      refine wpAny_truthy_bool ?_
      cases b' with
      | false => exact ⟨ch.trans ch₂, fun e => (nomatch e), fun _ => h2 rfl⟩
      | true =>
        refine test_last (thenE (hE r env ρ _ A E s₃ h₀ ek (R.ext (ch.trans ch₂).ext) ok (h1 rfl)) fun b₃ s₄ d₄ rd₄ q₄ ch₄ => ?_)
        exact wpAny_mono (sCmp q₄ (rd₂.ext ch₄.ext) rd₄ ok.cl) (fun v s₃ x => cvTv ((ch.trans ch₂).trans ch₄) x) fun _ _ x => x
  · rename_i x pos
    split at h
    · rename_i i hi
      simp only [qT, pT] at h
      split at h
      · rename_i d hd
        exact wpAny_isTrue_value (thenE (sVar R ek hi hd) fun v s₁ d' rd q ch => wpAny_mono (sTruth (q ▸ h) rd) (fun b s₂ t => Tv.from ch t) fun _ _ x => x)
      · exact h.elim
    · simp only [qT, pT] at h
  · rename_i l o r pos
    have h' : qE c n (cE (k + 1) env.scope.names (.BinOp l o r pos)) ρ (fun d => dTruth d P N) := by
      simp only [cE, qE, pE]; simpa only [qT, pT] using h
    simp only [cE, qE, pE] at h'
    refine wpAny_isTrue_value (wpAny_BinOp (thenE (hE l env ρ _ A E s h₀ ek R ok h') fun a s₁ d rd q ch => ?_))
    refine thenE (hE r env ρ _ A E s₁ h₀ ek (R.ext ch.ext) ok q) fun b s₂ d₂ rd₂ q₂ ch₂ => ?_
    refine thenE (sBin q₂ (rd.ext ch₂.ext) rd₂) fun v s₃ d₃ rd₃ q₃ ch₃ => ?_
    exact wpAny_mono (sTruth q₃ rd₃) (fun b s₂ t => Tv.from ((ch.trans ch₂).trans ch₃) t) fun _ _ x => x
  · rename_i v sl pos
    split at h
    · rename_i a i hc
      have h' : qE c n (cE k env.scope.names (.Subscript v sl pos)) ρ (fun d => dTruth d P N) := by
        rw [hc]; exact h
      exact wpAny_isTrue_value (thenE (hE _ env ρ _ A E s h₀ ek R ok h') fun v s₁ d rd q ch => wpAny_mono (sTruth q rd) (fun b s₂ t => Tv.from ch t) fun _ _ x => x)
    · simp only [qT, pT] at h
  · rename_i f as ks pos
    split at h
    · rename_i a hc
      have h' : qE c n (cE k env.scope.names (.Call f as ks pos)) ρ (fun d => dTruth d P N) := by
        rw [hc]; exact h
      exact wpAny_isTrue_value (thenE (hE _ env ρ _ A E s h₀ ek R ok h') fun v s₁ d rd q ch => wpAny_mono (sTruth q rd) (fun b s₂ t => Tv.from ch t) fun _ _ x => x)
    · rename_i f' as' hc
      have h' : qE c n (cE k env.scope.names (.Call f as ks pos)) ρ (fun d => dTruth d P N) := by
        rw [hc]; exact h
      exact wpAny_isTrue_value (thenE (hE _ env ρ _ A E s h₀ ek R ok h') fun v s₁ d rd q ch => wpAny_mono (sTruth q rd) (fun b s₂ t => Tv.from ch t) fun _ _ x => x)
    · simp only [qT, pT] at h
  · rename_i t b o pos
    simp only [qT, pT] at h
    rw [arm_isTrue_IfExp]
    refine wpAny_bind (wpAny_mono (hT t env ρ _ _ A E s h₀ ek R ok h) (fun bb s₁ tv => ?_) fun _ _ x => x)
    cases bb with
    | true => exact wpAny_mono (hT b env ρ _ _ A E s₁ h₀ ek (R.ext tv.1.ext) ok (tv.2.1 rfl)) (fun b s₂ t => Tv.from tv.1 t) fun _ _ x => x
    | false => exact wpAny_mono (hT o env ρ _ _ A E s₁ h₀ ek (R.ext tv.1.ext) ok (tv.2.2 rfl)) (fun b s₂ t => Tv.from tv.1 t) fun _ _ x => x
  · simp only [qT, pT] at h
end
end
section
open PySem PySem.W PySem.Calls PyProof.Rows PySem.SeqAt
theorem sub_plain {s : Expr} {o i : Value} (h : ∀ a b x p, s ≠ .Slice a b x p) : subscripted s false o i = operate [o, i] (getItem o i) := by
  cases s <;> first | rfl | exact absurd rfl (h _ _ _ _)

section
variable {c : Cx} {n k : Nat} {A : Around} {E : Value → Shared → Prop} {s : Shared} {h₀ : Heap} {env : Env} {ρ : Rho}

-- a builtin of one kind, called by its name
theorem callB {f : Str} {fp pos : Pos} {a : Expr} {r : List Expr} {id : String} {Q : Value → Shared → Prop} (R : SR c h₀ env ρ s.heap) (ek : EnvOk env) (hg : isGlob env.scope.names f = true) (hx : f ∈ builtinsUsed)
    (hb : bootBuiltins f = some (.builtin id)) (hs : (a :: r).all notStar = true)
    (h : wpAny (model c.prog c.w) A (spliced (backTo pos (starEach (a :: r) env))) (fun vs s₁ => wpAny (model c.prog c.w) A (call (.builtin id) vs) Q E s₁) E s) :
    wpAny (model c.prog c.w) A (eval (.Call (.Name f fp) (a :: r) [] pos) env) Q E s := by
  simp only [List.all_cons, Bool.and_eq_true] at hs
  exact wpAny_Call_NameR (sBuiltin R ek hg hx hb (callWith_builtin1 h (star_cons hs.1) (star_plain hs.2)))
theorem callT {f : Str} {fp pos : Pos} {a : Expr} {r : List Expr} {T : String} {Q : Value → Shared → Prop} (R : SR c h₀ env ρ s.heap) (ek : EnvOk env) (hg : isGlob env.scope.names f = true) (hx : f ∈ builtinsUsed)
    (hb : bootBuiltins f = some (.type T)) (hs : (a :: r).all notStar = true)
    (h : wpAny (model c.prog c.w) A (spliced (backTo pos (starEach (a :: r) env))) (fun vs s₁ => wpAny (model c.prog c.w) A (call (.type T) vs) Q E s₁) E s) :
    wpAny (model c.prog c.w) A (eval (.Call (.Name f fp) (a :: r) [] pos) env) Q E s := by
  simp only [List.all_cons, Bool.and_eq_true] at hs
  exact wpAny_Call_NameR (sBuiltin R ek hg hx hb (PyProof.Rows.callWith_type1 h (star_cons hs.1) (star_plain hs.2)))

theorem args1 (hE : SE c n k) {a : Expr} {pos : Pos} {Q : D → Prop} {Post : List Value → Shared → Prop} (R : SR c h₀ env ρ s.heap) (ek : EnvOk env) (ok : Ok n A) (hs : notStar a = true) (h : qE c n (cE k env.scope.names a) ρ Q)
    (kk : ∀ v s₁ d, Rep s₁.heap d v → Q d → Chg s s₁ → Post [v] s₁) : wpAny (model c.prog c.w) A (spliced (backTo pos (starEach [a] env))) Post E s := by
  rw [star_cons hs]
  exact spliced_cons (thenE (hE a env ρ _ A E s h₀ ek R ok h) fun v s₁ d rd q ch => spliced_nil (kk v s₁ d rd q ch))

theorem sSub {value sl : Expr} {x y : D} {Q : D → Prop} {v u : Value} (hsl : ∀ a b x p, sl ≠ .Slice a b x p)
    (h : match dItems x, y with | some l, .int k => 0 ≤ k ∧ k < 1000 ∧ ∃ d, l[k.toNat]? = some d ∧ Q d | _, _ => False) (rx : Rep s.heap x v) (ry : Rep s.heap y u) :
    wpAny (model c.prog c.w) A (subscriptTail value sl v u) (Gv Q s) E s := by
  split at h
  · rename_i l i hi
    obtain ⟨h0, h1, d, hd, hq⟩ := h
    obtain ⟨t, rfl⟩ := ry
    cases x <;> simp [dItems] at hi
    · subst hi
      obtain ⟨a, vs, rfl, ta, ra⟩ := rx
      obtain ⟨w, hw, rw'⟩ := Reps.get ra hd
      have hlt : i < vs.length := by
        have := (List.getElem?_eq_some_iff.mp hw).1
        omega
      exact tail_any ta.typeIs slot_tuple_getitem.lookup (PyProof.Rows.getItem_tuple (t := a) (items := vs.toArray) ta (by omega) (by omega) (seqIndex_of h0 (by simpa using hlt)) (by simpa using hw) ⟨d, rw', hq, Chg.refl s⟩) (sub_plain hsl)
    · subst hi
      obtain ⟨a, vs, rfl, ta, ra⟩ := rx
      obtain ⟨w, hw, rw'⟩ := Reps.get ra hd
      exact tail_any ta.typeIs slot_list_getitem.lookup (wpAny_getItem_list ta h0 (by omega) (by simpa using hw) ⟨d, rw', hq, Chg.refl s⟩) (sub_plain hsl)
  · exact h.elim

theorem litIndex_some {o : Option Expr} {k : Nat} (h : litIndex o = some k) : ∃ i kk p, o = some (.Constant (.int i) kk p) ∧ 0 ≤ i ∧ i.toNat = k ∧ k ≤ 1000 := by
  unfold litIndex at h
  split at h
  · rename_i i kk p
    split at h
    · rename_i hc
      cases h
      exact ⟨i, kk, p, rfl, hc.1, rfl, by omega⟩
    · cases h
  · cases h

theorem stepCall (hE : SE c n k) (hL : SL c n k) {f : Str} {fp pos : Pos} {as : List Expr} {Q : D → Prop} (R : SR c h₀ env ρ s.heap) (ek : EnvOk env) (ok : Ok n A)
    (h : qE c n (cE (k + 1) env.scope.names (.Call (.Name f fp) as [] pos)) ρ Q) : wpAny (model c.prog c.w) A (eval (.Call (.Name f fp) as [] pos) env) (Gv Q s) E s := by
  simp only [cE] at h
  split at h
  · simp only [qE, pE] at h
  · rename_i hgs
    simp only [Bool.or_eq_true, not_or, Bool.not_eq_true'] at hgs
    obtain ⟨hg, hs⟩ := hgs
    have hg : isGlob env.scope.names f = true := by simpa using hg
    have hs : as.all notStar = true := by simpa using hs
    cases as with
    | nil => simp only [qE, pE] at h
    | cons a r =>
      dsimp only at h
      have hs1 : notStar a = true ∧ r.all notStar = true := by simpa using hs
      split at h
      · rename_i hf
        have hf := eq_of_beq hf; subst hf
        split at h
        · rename_i t tp
          split at h
          · rename_i ht
            simp only [Bool.and_eq_true] at ht
            obtain ⟨ht, hgt⟩ := ht
            have ht := eq_of_beq ht; subst ht
            simp only [qE, pE] at h
            refine callB R ek hg (by simp [builtinsUsed]) Boot.«isinstance» hs ?_
            rw [star_cons hs1.1]
            refine spliced_cons (thenE (hE a env ρ _ A E s h₀ ek R ok h) fun v s₁ d rd q ch => ?_)
            rw [star_cons (by rfl)]
            refine spliced_cons (sBuiltin (R.ext ch.ext) ek hgt (by simp [builtinsUsed]) Boot.«int» (spliced_nil ?_))
            split at q
            · obtain ⟨t, rfl⟩ := rd
              exact call_isinstance_yes (typeIs_int _ _ _) meta_int sub_int_int ⟨.bool true, rfl, q, ch⟩
            · exact q.elim
          · simp only [qE, pE] at h
        · simp only [qE, pE] at h
      · split at h
        · rename_i hf
          have hf := eq_of_beq hf; subst hf
          split at h
          · simp only [qE, pE] at h
            refine callB R ek hg (by simp [builtinsUsed]) Boot.«abs» hs (args1 hE R ek ok hs1.1 h fun v s₁ d rd q ch => ?_)
            split at q
            · obtain ⟨t, rfl⟩ := rd
              exact call_abs_int fun u tk => ⟨.int _, ⟨u, rfl⟩, q, ch.trans (Chg.tok _ _)⟩
            · exact q.elim
          · simp only [qE, pE] at h
        · split at h
          · rename_i hf
            have hf := eq_of_beq hf; subst hf
            split at h
            · simp only [qE, pE] at h
              refine callB R ek hg (by simp [builtinsUsed]) Boot.«len» hs (args1 hE R ek ok hs1.1 h fun v s₁ d rd q ch => ?_)
              split at q
              · obtain ⟨x, vs, rfl, ta, ra⟩ := rd
                have l1 := Reps.length ra
                have e1 : vs.toArray.size = _ := (by simp : vs.toArray.size = vs.length).trans l1
                exact len_list ta (by rw [e1]; omega) ⟨.int _, ⟨_, by rw [e1]⟩, q.2, ch.trans (Chg.tok _ _)⟩
              · exact q.elim
            · simp only [qE, pE] at h
          · split at h
            · rename_i hf
              have hf := eq_of_beq hf; subst hf
              split at h
              · simp only [qE, pE] at h
                refine callT R ek hg (by simp [builtinsUsed]) Boot.«tuple» hs (args1 hE R ek ok hs1.1 h fun v s₁ d rd q ch => ?_)
                split at q
                · obtain ⟨x, vs, rfl, ta, ra⟩ := rd
                  have l1 := Reps.length ra
                  refine call_tuple_list ta (fun h' hk => ?_) (small_fits (by rw [List.size_toArray, l1]; exact Nat.le_trans q.1 (by omega)))
                  exact ⟨.tup _, ⟨_, _, rfl, isTuple_new _, (ra.ext hk).ext (Ext.push _ _)⟩, q.2, ch.trans ⟨_, _, rfl, fun b o e => Ext.push _ _ b o (hk b o e)⟩⟩
                · exact q.elim
              · simp only [qE, pE] at h
            · split at h
              · rename_i hf
                have hf := eq_of_beq hf; subst hf
                split at h
                · simp only [qE, pE] at h
                  refine callT R ek hg (by simp [builtinsUsed]) Boot.«int» hs (args1 hE R ek ok hs1.1 h fun v s₁ d rd q ch => ?_)
                  split at q
                  · obtain ⟨t, rfl⟩ := rd
                    exact call_int_int ⟨.int _, ⟨t, rfl⟩, q, ch⟩
                  · exact q.elim
                · simp only [qE, pE] at h
              · split at h
                · rename_i hf
                  have hf := eq_of_beq hf; subst hf
                  rcases r with _ | ⟨b, _ | ⟨_, _⟩⟩
                  · simp only [qE, pE] at h
                  · dsimp only at h
                    have hs2 : notStar b = true := by simpa using hs1.2
                    simp only [qE, pE] at h
                    refine callB R ek hg (by simp [builtinsUsed]) Boot.«divmod» hs ?_
                    rw [star_cons hs1.1]
                    refine spliced_cons (thenE (hE a env ρ _ A E s h₀ ek R ok h) fun v s₁ d rd q ch => ?_)
                    refine args1 hE (R.ext ch.ext) ek ok hs2 q fun v₂ s₂ d₂ rd₂ q₂ ch₂ => ?_
                    split at q₂
                    · obtain ⟨t, rfl⟩ := rd; obtain ⟨t', rfl⟩ := rd₂
                      refine divmod_int q₂.1 ?_ (Or.inl q₂.2.1)
                      exact ⟨.tup [.int _, .int _], ⟨_, [_, _], rfl, isTuple_new _, ⟨_, _, rfl, ⟨_, rfl⟩, ⟨_, _, rfl, ⟨_, rfl⟩, rfl⟩⟩⟩, q₂.2.2, (ch.trans ch₂).trans ⟨_, _, rfl, Ext.push _ _⟩⟩
                    · exact q₂.elim
                  · simp only [qE, pE] at h
                · simp only [qE, pE] at h
                  obtain ⟨⟨x, o, fd, e1, e2, e3⟩, h⟩ := h
                  refine wpAny_Call_NameR (sGlobal R ek hg e1 (callWith_def e3 (thenL (hL (a :: r) env ρ _ A E s h₀ pos ek R ok hs h) fun vs s₁ ds rds q ch ln => ?_) (star_cons hs1.1)))
                  obtain ⟨d, ht, hq⟩ := q
                  have R₁ := R.ext ch.ext
                  refine ⟨R₁.wd.k _ _ e2, thenE (ht x e1 A E s₁ vs R₁.wd ok rds) fun v s₂ d' rd e ch₂ => ?_⟩
                  exact ⟨d, e ▸ rd, hq, ch.trans ch₂⟩
end
end
section
open PySem PySem.W PySem.Calls PyProof.Rows PySem.SeqAt
section
variable {c : Cx} {n k : Nat} {A : Around} {E : Value → Shared → Prop} {s : Shared} {h₀ : Heap} {env : Env} {ρ : Rho}

theorem sSliceUp (hE : SE c n k) {x : Str} {xp p pos : Pos} {up : Option Expr} {kk : Nat} {Q : D → Prop} (R : SR c h₀ env ρ s.heap) (ek : EnvOk env) (ok : Ok n A) (hl : litIndex up = some kk)
    (h : qE c n (cE k env.scope.names (.Name x xp)) ρ fun d => match d with | .list l => l.length ≤ 1000 ∧ Q (.list (l.take kk)) | _ => False) :
    wpAny (model c.prog c.w) A (eval (.Subscript (.Name x xp) (.Slice none up none p) pos) env) (Gv Q s) E s := by
  obtain ⟨i, ck, cp, rfl, h0, rfl, hk⟩ := litIndex_some hl
  refine wpAny_Subscript_list_slice (thenE (hE _ env ρ _ A E s h₀ ek R ok h) fun v s₁ d rd q ch => ?_)
  rw [evalPart_none, evalPart_some]
  refine wpAny_pure (wpAny_Constant_int ?_)
  split at q
  · obtain ⟨a, vs, rfl, ta, ra⟩ := rd
    have l1 := Reps.length ra
    refine ⟨a, vs.toArray, none, some i, rfl, ta, small_fits (by rw [List.size_toArray, l1]; omega), .none, .int i _, ?_⟩
    have e := slicePick_upto' vs.toArray i.toNat
    rw [Int.toNat_of_nonneg h0] at e
    rw [e]
    have g : Gv Q _ (.ref _) _ := Gv.list (Q := Q) (s := { s₁ with heap := s₁.heap.push { cls := .type "slice", data := .fields #[Value.none, Value.int i s₁.toks, .none] }, toks := s₁.toks + 1 }) (t := s₁.toks + 1) ((ra.take i.toNat).ext (Ext.push _ _)) q.2
    rw [show ({ s₁ with heap := s₁.heap.push { cls := .type "slice", data := .fields #[Value.none, Value.int i s₁.toks, .none] }, toks := s₁.toks + 1 } : Shared).heap.objs.size = s₁.heap.objs.size + 1 from Heap.size_push ..] at g
    exact Gv.from (ch.trans (Chg.push2 _ _ _)) g
  · exact q.elim

theorem sSliceLo (hE : SE c n k) {x : Str} {xp p pos : Pos} {lo : Option Expr} {kk : Nat} {Q : D → Prop} (R : SR c h₀ env ρ s.heap) (ek : EnvOk env) (ok : Ok n A) (hl : litIndex lo = some kk)
    (h : qE c n (cE k env.scope.names (.Name x xp)) ρ fun d => match d with | .list l => l.length ≤ 1000 ∧ Q (.list (l.drop kk)) | _ => False) :
    wpAny (model c.prog c.w) A (eval (.Subscript (.Name x xp) (.Slice lo none none p) pos) env) (Gv Q s) E s := by
  obtain ⟨i, ck, cp, rfl, h0, rfl, hk⟩ := litIndex_some hl
  refine wpAny_Subscript_list_slice (thenE (hE _ env ρ _ A E s h₀ ek R ok h) fun v s₁ d rd q ch => ?_)
  rw [evalPart_none, evalPart_some]
  refine wpAny_Constant_int (wpAny_pure ?_)
  split at q
  · obtain ⟨a, vs, rfl, ta, ra⟩ := rd
    have l1 := Reps.length ra
    refine ⟨a, vs.toArray, some i, none, rfl, ta, small_fits (by rw [List.size_toArray, l1]; omega), .int i _, .none, ?_⟩
    have e := slicePick_from' vs.toArray i.toNat
    rw [Int.toNat_of_nonneg h0] at e
    rw [e]
    have g : Gv Q _ (.ref _) _ := Gv.list (Q := Q) (s := { s₁ with heap := s₁.heap.push { cls := .type "slice", data := .fields #[Value.int i s₁.toks, Value.none, .none] }, toks := s₁.toks + 1 }) (t := s₁.toks + 1) ((ra.drop i.toNat).ext (Ext.push _ _)) q.2
    rw [show ({ s₁ with heap := s₁.heap.push { cls := .type "slice", data := .fields #[Value.int i s₁.toks, Value.none, .none] }, toks := s₁.toks + 1 } : Shared).heap.objs.size = s₁.heap.objs.size + 1 from Heap.size_push ..] at g
    exact Gv.from (ch.trans (Chg.push2 _ _ _)) g
  · exact q.elim

theorem baseOf {o : Expr} (h : plainBase o = true) (nm : Str) (env : Env) : attributeBase o nm env (eval o env) = eval o env := by
  cases o <;> first | rfl | (simp [plainBase] at h)

theorem stepE (hE : SE c n k) (hL : SL c n k) (hT : ST c n k) (hC : SC c n (k + 1)) : SE c n (k + 1) := by
  intro e env ρ Q A E s h₀ ek R ok h
  by_cases hnc : notComp e = false
  · exact hC e env ρ Q A E s h₀ ek R ok hnc h
  replace hnc : notComp e = true := by simpa using hnc
  have h0 := h
  unfold cE at h
  split at h
  · simp only [qE, pE] at h; exact wpAny_Constant_int (Gv.int h)
  · simp only [qE, pE] at h; exact wpAny_Constant_bool (Gv.bool h)
  · simp only [qE, pE] at h; exact wpAny_Constant_str ⟨.str _, ⟨_, rfl⟩, h, Chg.tok _ _⟩
  · simp only [qE, pE] at h; exact wpAny_Constant_none ⟨.none, rfl, h, Chg.refl _⟩
  · rename_i x p
    unfold cName at h
    split at h
    · rename_i i hi
      simp only [qE, pE] at h
      split at h
      · rename_i d hd
        exact thenE (sVar R ek hi hd) fun v s₁ d' rd q ch => ⟨d', rd, q ▸ h, ch⟩
      · exact h.elim
    · split at h
      · rename_i hg
        simp only [qE, pE] at h
        obtain ⟨d, ⟨v, e1, e2⟩, hq⟩ := h
        exact sGlobal R ek hg e1 ⟨d, e2 _ R.wd.k, hq, Chg.refl _⟩
      · simp only [qE, pE] at h
  · rename_i l o r p
    simp only [qE, pE] at h
    refine wpAny_BinOp (thenE (hE l env ρ _ A E s h₀ ek R ok h) fun a s₁ d rd q ch => ?_)
    refine thenE (hE r env ρ _ A E s₁ h₀ ek (R.ext ch.ext) ok q) fun b s₂ d₂ rd₂ q₂ ch₂ => ?_
    exact wpAny_mono (sBin q₂ (rd.ext ch₂.ext) rd₂) (fun v s₃ g => Gv.from (ch.trans ch₂) g) fun _ _ x => x
  · rename_i x p
    simp only [qE, pE] at h
    refine wpAny_UnaryOp (thenE (hE x env ρ _ A E s h₀ ek R ok h) fun a s₁ d rd q ch => ?_)
    split at q
    · obtain ⟨t, rfl⟩ := rd
      exact PyProof.Rows.neg_int (Gv.from ch (Gv.int q))
    · exact q.elim
  · rename_i x p
    simp only [qE, pE] at h
    refine wpAny_UnaryOp (thenE (hE x env ρ _ A E s h₀ ek R ok h) fun a s₁ d rd q ch => ?_)
    refine not_value (wpAny_mono (sTruth q rd) (fun b s₂ t => ?_) fun _ _ x => x)
    cases b with
    | true => exact ⟨.bool _, rfl, t.2.1 rfl, ch.trans t.1⟩
    | false => exact ⟨.bool _, rfl, t.2.2 rfl, ch.trans t.1⟩
  · rename_i x y p
    simp only [qE, pE] at h
    refine wpAny_And2 (thenE (hE x env ρ _ A E s h₀ ek R ok h) fun a s₁ d rd q ch => ?_)
    refine wpAny_mono (sTruth q rd) (fun b s₂ t => ?_) fun _ _ x => x
    cases b with
    | true => exact wpAny_mono (hE y env ρ _ A E s₂ h₀ ek (R.ext (ch.trans t.1).ext) ok (t.2.1 rfl)) (fun v s₃ g => Gv.from (ch.trans t.1) g) fun _ _ x => x
    | false => exact ⟨d, rd.ext t.1.ext, t.2.2 rfl, ch.trans t.1⟩
  · rename_i x y p
    simp only [qE, pE] at h
    refine wpAny_Or2 (thenE (hE x env ρ _ A E s h₀ ek R ok h) fun a s₁ d rd q ch => ?_)
    refine wpAny_mono (sTruth q rd) (fun b s₂ t => ?_) fun _ _ x => x
    cases b with
    | false => exact wpAny_mono (hE y env ρ _ A E s₂ h₀ ek (R.ext (ch.trans t.1).ext) ok (t.2.2 rfl)) (fun v s₃ g => Gv.from (ch.trans t.1) g) fun _ _ x => x
    | true => exact ⟨d, rd.ext t.1.ext, t.2.1 rfl, ch.trans t.1⟩
  · rename_i t b o p
    simp only [qE, pE] at h
    refine wpAny_IfExp (wpAny_mono (hT t env ρ _ _ A E s h₀ ek R ok h) (fun b' s₁ tt => ?_) fun _ _ x => x)
    cases b' with
    | true => exact wpAny_mono (hE b env ρ _ A E s₁ h₀ ek (R.ext tt.1.ext) ok (tt.2.1 rfl)) (fun v s₃ g => Gv.from tt.1 g) fun _ _ x => x
    | false => exact wpAny_mono (hE o env ρ _ A E s₁ h₀ ek (R.ext tt.1.ext) ok (tt.2.2 rfl)) (fun v s₃ g => Gv.from tt.1 g) fun _ _ x => x
  · rename_i l o r p
    split at h
    · simp only [qE, pE] at h
    · rename_i hb
      simp only [qE, pE] at h
      refine wpAny_Compare1 (thenE (hE l env ρ _ A E s h₀ ek R ok h) fun a s₁ d rd q ch => ?_) (by simpa using hb)
      refine thenE (hE r env ρ _ A E s₁ h₀ ek (R.ext ch.ext) ok q) fun b s₂ d₂ rd₂ q₂ ch₂ => ?_
      refine wpAny_mono (sCmp q₂ (rd.ext ch₂.ext) rd₂ ok.cl) (fun v s₃ x => ?_) fun _ _ x => x
      obtain ⟨b', rfl, rfl, h1, h2⟩ := x
      cases b' with
      | true => exact ⟨.bool _, rfl, h1 rfl, ch.trans ch₂⟩
      | false => exact ⟨.bool _, rfl, h2 rfl, ch.trans ch₂⟩
  · exact stepCall hE hL R ek ok h0
  · rename_i o m ap p
    split at h
    · rename_i hc
      simp only [Bool.and_eq_true] at hc
      obtain ⟨⟨hm, hb⟩, hl⟩ := hc
      have hm := eq_of_beq hm; subst hm
      simp only [qE, pE] at h
      refine wpAny_Call_method0_late (baseOf hb _ _) hl (thenE (hE o env ρ _ A E s h₀ ek R ok h) fun v s₁ d rd q ch => ?_)
      split at q
      · obtain ⟨t, rfl⟩ := rd
        refine ⟨"int", "int.bit_length", F.plainAttrs_int, F.slot_int_bit_length, F.type_int_bit_length, typeIs_int _ _ _, fun a e => (by cases e), ?_⟩
        exact callWith_builtin (args := []) rfl (PyProof.Rows.evalArgs_none (call_int_bit_length (Gv.from ch (Gv.int q))))
      · exact q.elim
    · simp only [qE, pE] at h
  · rename_i v up sp p
    split at h
    · rename_i x xp kk hl
      simp only [qE, pE] at h
      exact sSliceUp hE R ek ok hl h
    · simp only [qE, pE] at h
  · rename_i v lo sp p hne
    split at h
    · rename_i x xp kk hl
      simp only [qE, pE] at h
      exact sSliceLo hE R ek ok hl h
    · simp only [qE, pE] at h
  · simp only [qE, pE] at h
  · rename_i g gp sl p _ _ hns
    have hsl : ∀ a b x p, sl ≠ .Slice a b x p := fun a b x p e => hns a b x p e
    split at h
    · rename_i hg
      simp only [qE, pE] at h
      obtain ⟨⟨_, _, a, ea, hd, _⟩, h⟩ := h
      refine Subscript_ (sGlobal R ek hg ea (thenE (hE sl env ρ _ A E s h₀ ek R ok h) fun b s₂ d₂ rd₂ q₂ ch₂ => ?_))
      have R₂ := R.ext ch₂.ext
      split at q₂
      · obtain ⟨t, rfl⟩ := rd₂
        obtain ⟨d, ⟨a', ea', _, hg'⟩, hq⟩ := q₂
        rw [ea] at ea'; cases ea'
        exact tail_any (hd _ R₂.wd.k) F.slot_dict_getitem.lookup (thenE (hg' A E s₂ t R₂.wd ok.hd) fun v s₃ d' rd e ch₃ => ⟨d', rd, e ▸ hq, ch₂.trans ch₃⟩) (sub_plain hsl)
      · exact q₂.elim
    · simp only [qE, pE] at h
      refine Subscript_ (thenE (hE _ env ρ _ A E s h₀ ek R ok h) fun a s₁ d rd q ch => ?_)
      refine thenE (hE sl env ρ _ A E s₁ h₀ ek (R.ext ch.ext) ok q) fun b s₂ d₂ rd₂ q₂ ch₂ => ?_
      exact wpAny_mono (sSub hsl q₂ (rd.ext ch₂.ext) rd₂) (fun v s₃ g => Gv.from (ch.trans ch₂) g) fun _ _ x => x
  · rename_i v sl p _ _ hns _
    have hsl : ∀ a b x p, sl ≠ .Slice a b x p := fun a b x p e => hns a b x p e
    simp only [qE, pE] at h
    refine Subscript_ (thenE (hE _ env ρ _ A E s h₀ ek R ok h) fun a s₁ d rd q ch => ?_)
    refine thenE (hE sl env ρ _ A E s₁ h₀ ek (R.ext ch.ext) ok q) fun b s₂ d₂ rd₂ q₂ ch₂ => ?_
    exact wpAny_mono (sSub hsl q₂ (rd.ext ch₂.ext) rd₂) (fun v s₃ g => Gv.from (ch.trans ch₂) g) fun _ _ x => x
  · rename_i es kk p
    split at h
    · rename_i hc
      simp only [Bool.and_eq_true, decide_eq_true_eq] at hc
      simp only [qE, pE] at h
      refine wpAny_Tuple (thenL (hL es env ρ _ A E s h₀ p ek R ok hc.1 h) fun vs s₁ ds rds q ch ln => ?_)
      exact ⟨small_fits (by omega), Gv.from ch (Gv.tup (t := s₁.toks) rds q)⟩
    · simp only [qE, pE] at h
  · rename_i es p
    split at h
    · rename_i hc
      simp only [Bool.and_eq_true, decide_eq_true_eq] at hc
      simp only [qE, pE] at h
      refine wpAny_List (thenL (hL es env ρ _ A E s h₀ p ek R ok hc.1 h) fun vs s₁ ds rds q ch ln => ?_)
      exact ⟨small_fits (by omega), Gv.from ch (Gv.list (t := s₁.toks) rds q)⟩
    · simp only [qE, pE] at h
  · simp [notComp] at hnc
  · simp [notComp] at hnc
  · simp only [qE, pE] at h
end
end
section
open PySem PySem.W PySem.Calls PyProof.Rows PySem.SeqAt
/-- all stands but the frame's own names and cells -/
def KB (env : Env) (h h' : Heap) : Prop := ∀ b o, b ≠ env.locals → (∀ x, env.cells.lookup x ≠ some b) → h.get? b = some o → h'.get? b = some o
theorem KB.ext {env : Env} {h h' : Heap} (k : Ext h h') : KB env h h' := fun b o _ _ e => k b o e
theorem KB.trans {env : Env} {h h' h'' : Heap} (x : KB env h h') (y : KB env h' h'') : KB env h h'' := fun b o n m e => y b o n m (x b o n m e)
theorem KB.same {env : Env} {h h' : Heap} (x : Heap.SameBut env.locals h h') : KB env h h' := fun b o n _ e => x.extBut b o n e

/-- a state of the same run -/
def Sm (s s' : Shared) : Prop := ∃ h tk, s' = { s with heap := h, toks := tk }
theorem Sm.refl (s : Shared) : Sm s s := ⟨s.heap, s.toks, rfl⟩
theorem Sm.trans {s s' s'' : Shared} (x : Sm s s') (y : Sm s' s'') : Sm s s'' := by
  obtain ⟨h, tk, rfl⟩ := x
  obtain ⟨h', tk', rfl⟩ := y
  exact ⟨h', tk', rfl⟩
theorem Chg.sm {s s' : Shared} (x : Chg s s') : Sm s s' := by obtain ⟨h, tk, rfl, _⟩ := x; exact ⟨h, tk, rfl⟩

/-- what a statement comes to -/
def Sv (c : Cx) (h₀ : Heap) (env : Env) (K : Fl → Prop) (s : Shared) (f : Flow) (s' : Shared) : Prop :=
  Sm s s' ∧ Ext h₀ s'.heap ∧ KB env s.heap s'.heap ∧ ((∃ ρ', f = .next ∧ SR c h₀ env ρ' s'.heap ∧ K (.nx ρ')) ∨ (∃ v d, f = .ret v ∧ Rep s'.heap d v ∧ K (.rt d)))

theorem Sv.from {c : Cx} {h₀ : Heap} {env : Env} {K : Fl → Prop} {s s₁ s' : Shared} {f : Flow} (m : Sm s s₁) (k : KB env s.heap s₁.heap) (x : Sv c h₀ env K s₁ f s') : Sv c h₀ env K s f s' :=
  ⟨m.trans x.1, x.2.1, k.trans x.2.2.1, x.2.2.2⟩

theorem nameD_use {d : D} {K : D → Prop} (h : nameD d K) : K d := by
  cases d <;> first | exact h _ rfl | exact h

section
variable (c : Cx) (env : Env)
def Stores (f : Value → Sem Unit) (i : Nat) : Prop := ∀ (h₀ : Heap) (ρ : Rho) (d : D) (v : Value) (A : Around) (E : Value → Shared → Prop) (s : Shared), EnvOk env → SR c h₀ env ρ s.heap → Rep s.heap d v →
  wpAny (model c.prog c.w) A (f v) (fun _ s' => ∃ h tk, s' = { s with heap := h, toks := tk } ∧ Heap.SameBut env.locals s.heap h ∧ KeepSeq s.heap h ∧ SR c h₀ env (put ρ i d) h) E s
def StoresAll : List (Value → Sem Unit) → List Nat → Prop
  | [], [] => True
  | f :: fs, i :: is => Stores c env f i ∧ StoresAll fs is
  | _, _ => False
end

section
variable {c : Cx} {n : Nat} {A : Around} {E : Value → Shared → Prop} {s : Shared} {h₀ : Heap} {env : Env} {ρ : Rho}

theorem StoresAll.length : ∀ {fs : List (Value → Sem Unit)} {is : List Nat}, StoresAll c env fs is → fs.length = is.length
  | [], [], _ => rfl
  | _ :: _, _ :: _, h => by simp [StoresAll.length h.2]
theorem StoresAll.append : ∀ {fs gs : List (Value → Sem Unit)} {is js : List Nat}, StoresAll c env fs is → StoresAll c env gs js → StoresAll c env (fs ++ gs) (is ++ js)
  | [], _, [], _, _, y => y
  | _ :: _, _, _ :: _, _, x, y => ⟨x.1, StoresAll.append x.2 y⟩
theorem StoresAll.reverse : ∀ {fs : List (Value → Sem Unit)} {is : List Nat}, StoresAll c env fs is → StoresAll c env fs.reverse is.reverse
  | [], [], _ => trivial
  | f :: fs, i :: is, x => by
    rw [List.reverse_cons, List.reverse_cons]
    exact StoresAll.append (StoresAll.reverse x.2) ⟨x.1, trivial⟩
theorem Reps.reverse {h : Heap} : ∀ {l : List D} {vs : List Value}, Reps h l vs → Reps h l.reverse vs.reverse
  | [], _, e => by cases e; rfl
  | d :: r, _, ⟨v, t, e, x, y⟩ => by
    cases e
    rw [List.reverse_cons, List.reverse_cons]
    exact Reps.append (Reps.reverse y) ⟨v, [], rfl, x, rfl⟩

theorem sOrder' (ek : EnvOk env) : ∀ (fs : List (Value → Sem Unit)) (is : List Nat) (ds : List D) (vs : List Value) (ρ : Rho) (K : Rho → Prop) (s : Shared), StoresAll c env fs is → SR c h₀ env ρ s.heap → Reps s.heap ds vs → putAll is ds ρ K →
    wpAny (model c.prog c.w) A (assignInOrder fs vs) (fun _ s' => Sm s s' ∧ (∀ b o, b ≠ env.locals → s.heap.get? b = some o → s'.heap.get? b = some o) ∧ ∃ ρ', SR c h₀ env ρ' s'.heap ∧ K ρ') E s
  | [], [], ds, vs, ρ, K, s, _, R, rp, hk => by
    cases ds with
    | nil => cases rp; exact wpAny_pure ⟨Sm.refl s, fun _ _ _ e => e, ρ, R, hk⟩
    | cons d r => exact hk.elim
  | f :: fs, i :: is, ds, vs, ρ, K, s, hf, R, rp, hk => by
    cases ds with
    | nil => exact hk.elim
    | cons d r =>
      obtain ⟨v, t, rfl, x, y⟩ := rp
      have hk := nameD_use hk
      show wpAny _ _ (do holding t (f v); assignInOrder fs t) _ _ _
      refine wpAny_bind (wpAny_holding (wpAny_mono (hf.1 h₀ ρ d v A E s ek R x) (fun _ s₁ h₁ => ?_) fun _ _ e => e))
      obtain ⟨h, tk, rfl, sb, ks, R₁⟩ := h₁
      refine wpAny_mono (sOrder' ek fs is r t (put ρ i d) K _ hf.2 R₁ (Reps.keep ks _ _ y) hk) (fun _ s₂ h₂ => ?_) fun _ _ e => e
      exact ⟨Sm.trans ⟨_, _, rfl⟩ h₂.1, fun b o n1 e => h₂.2.1 b o n1 (sb.extBut b o n1 e), h₂.2.2⟩

theorem sOrder (ek : EnvOk env) (fs : List (Value → Sem Unit)) (is : List Nat) (ds : List D) (vs : List Value) (ρ : Rho) (K : Rho → Prop) (s : Shared) (h1 : StoresAll c env fs is) (R : SR c h₀ env ρ s.heap) (h2 : Reps s.heap ds vs) (h3 : putAll is ds ρ K) :
    wpAny (model c.prog c.w) A (assignInOrder fs vs) (fun _ s' => Sm s s' ∧ KB env s.heap s'.heap ∧ ∃ ρ', SR c h₀ env ρ' s'.heap ∧ K ρ') E s :=
  wpAny_mono (sOrder' ek fs is ds vs ρ K s h1 R h2 h3) (fun _ _ x => ⟨x.1, fun b o n1 _ e => x.2.1 b o n1 e, x.2.2⟩) fun _ _ e => e

theorem stores_bind {x : Str} {i : Nat} (hl : env.scope.names.lookup x = some .local) (hi : nIdx env.scope.names x = some i) : Stores c env (bindName env x) i :=
  fun _ _ _ _ _ _ _ ek R r => sStoreL R ek hl hi r
theorem stores_assign {x : Str} {p : Pos} {i : Nat} (hl : env.scope.names.lookup x = some .local) (hi : nIdx env.scope.names x = some i) : Stores c env (assign (.Name x p) env) i :=
  fun _ _ _ _ _ _ _ ek R r => wpAny_bind (wpAny_standAt (sStoreL R ek hl hi r))

theorem cNames_cons {nm : Names} {e : Expr} {r : List Expr} {xs : List Nat} (h : cNames nm (e :: r) = some xs) : ∃ x p i l, e = .Name x p ∧ nm.lookup x = some .local ∧ nIdx nm x = some i ∧ cNames nm r = some l ∧ xs = i :: l := by
  unfold cNames at h
  split at h
  · rename_i e'; cases e'
  · rename_i x p r' e'
    cases e'
    split at h
    · rename_i hc
      simp only [Bool.and_eq_true, beq_iff_eq] at hc
      split at h
      · rename_i i l h1 h2
        cases h
        exact ⟨x, p, i, l, rfl, hc.2, h1, h2, rfl⟩
      · cases h
    · cases h
  · cases h

theorem names_assign : ∀ (ts : List Expr) (xs : List Nat), cNames env.scope.names ts = some xs →
    StoresAll c env ((assignEach ts env).map (·.2)) xs ∧ (assignEach ts env).length = ts.length ∧ (assignEach ts env).findIdx? (·.1) = none ∧ ts.length = xs.length
  | [], xs, h => by cases h; exact ⟨trivial, rfl, rfl, rfl⟩
  | e :: r, xs, h => by
    obtain ⟨x, p, i, l, rfl, h1, h2, h3, rfl⟩ := cNames_cons h
    obtain ⟨i1, i2, i3, i4⟩ := names_assign r l h3
    have e1 : assignEach (.Name x p :: r) env = (false, assign (.Name x p) env) :: assignEach r env := rfl
    rw [e1]
    refine ⟨⟨stores_assign h1 h2, i1⟩, by simp [i2], ?_, by simp [i4]⟩
    rw [List.findIdx?_cons]; simp [i3]
theorem names_bind : ∀ (ts : List Expr) (xs : List Nat), cNames env.scope.names ts = some xs → StoresAll c env ((namesOf ts).map fun n => bindName env n) xs ∧ (namesOf ts).length = ts.length
  | [], xs, h => by cases h; exact ⟨trivial, rfl⟩
  | e :: r, xs, h => by
    obtain ⟨x, p, i, l, rfl, h1, h2, h3, rfl⟩ := cNames_cons h
    obtain ⟨i1, i2⟩ := names_bind r l h3
    exact ⟨⟨stores_bind h1 h2, i1⟩, by simp [namesOf, i2]⟩

theorem names_len {nm : Names} : ∀ (ts : List Expr) (xs : List Nat), cNames nm ts = some xs → (namesOf ts).length = ts.length
  | [], xs, h => rfl
  | e :: r, xs, h => by
    obtain ⟨x, p, i, l, rfl, h1, h2, h3, rfl⟩ := cNames_cons h
    simp [namesOf, names_len r l h3]
theorem names_filter (line : Nat) (f : Expr → Option Str) (hf : ∀ id pos, f (.Name id pos) = if (env.kindOf id == some NameKind.local && pos.line == line) = true then some id else none) :
    ∀ (ts : List Expr) (xs : List Nat), cNames env.scope.names ts = some xs → (∀ x q, .Name x q ∈ ts → q.line = line) → ts.filterMap f = namesOf ts
  | [], xs, h, _ => rfl
  | e :: r, xs, h, hl => by
    obtain ⟨x, p, i, l, rfl, h1, h2, h3, rfl⟩ := cNames_cons h
    have := names_filter line f hf r l h3 fun y q hm => hl y q (List.mem_cons_of_mem _ hm)
    have hc : (env.kindOf x == some .local && p.line == line) = true := by rw [kindOf_eq, h1, hl x p List.mem_cons_self]; simp
    rw [List.filterMap_cons, hf, if_pos hc, this]; rfl
theorem star_none {vs : List Expr} (h3 : vs.all notStar = true) (f : Expr → Bool) (hf : ∀ e, f e = !notStar e) : vs.any f = false := by
  rw [List.any_eq_false]
  intro y hy
  rw [hf, List.all_eq_true.mp h3 y hy]; decide

theorem swapped_yes {ts : List Expr} {k kk : Nat} {p q : Pos} {vs : List Expr} {xs : List Nat} (ek : EnvOk env) (h : swaps ts (.Tuple vs kk q) = true) (hn : cNames env.scope.names ts = some xs) :
    swappedStores [.Tuple ts k p] (.Tuple vs kk q) env = pure (some (namesOf ts)) := by
  simp only [swaps, Bool.and_eq_true] at h
  obtain ⟨⟨⟨⟨⟨⟨h1, h2⟩, h3⟩, h4⟩, h5⟩, h6⟩, h7⟩ := h
  cases ts with
  | nil => simp at h1
  | cons e r =>
    have hn0 := hn
    obtain ⟨x, px, i, l, rfl, g1, g2, g3, rfl⟩ := cNames_cons hn
    simp only at h7
    have hall : ∀ y q, Expr.Name y q ∈ Expr.Name x px :: r → q.line = px.line := by
      intro y q hm
      cases hm with
      | head => rfl
      | tail _ hm => simpa using List.all_eq_true.mp h7 _ hm
    have hlen := names_len _ _ hn0
    have hb : env.blockKind = .function := by unfold Env.blockKind; rw [ek.k]; rfl
    unfold swappedStores
    simp only [pure_bind]
    have c1 : (!((Expr.Name x px :: r).length == 2 || (Expr.Name x px :: r).length == 3) || vs.length != (Expr.Name x px :: r).length || env.blockKind != .function) = false := by
      rw [hb, h1]
      simp only [Bool.not_true, Bool.false_or]
      simp only [bne, h2]; rfl
    rw [if_neg (by rw [c1]; exact Bool.false_ne_true), if_neg (by rw [star_none h3 _ (fun e => by cases e <;> rfl)]; exact Bool.false_ne_true)]
    rw [names_filter px.line _ (fun _ _ => rfl) _ _ hn0 hall]
    have c2 : ((namesOf (Expr.Name x px :: r)).length != (Expr.Name x px :: r).length || (namesOf (Expr.Name x px :: r)).eraseDups.length != (namesOf (Expr.Name x px :: r)).length) = false := by
      rw [hlen] at h6 ⊢
      simp only [bne, beq_self_eq_true, h6]; rfl
    rw [if_neg (by rw [c2]; exact Bool.false_ne_true), if_neg (by simpa using h4), if_neg (by simpa using h5)]
theorem swapped_no {ts : List Expr} {k : Nat} {p : Pos} {v : Expr} (h : isTup2 v = false) : swappedStores [.Tuple ts k p] v env = pure none := by
  cases v <;> first | rfl | (simp [isTup2] at h)
theorem swaps_no {v : Expr} {t : Option Expr} {line : Nat} (h : notComp v = true) : swapsWith v t line env = pure false := by
  cases v <;> first | rfl | (simp [notComp] at h)
theorem swapsSole_no {v : Expr} {ts : List Expr} {line : Nat} (h : notComp v = true) : swapsWithSole ts v line env = pure false := by
  unfold swapsWithSole
  split
  · exact swaps_no h
  · rfl
end
end
section
open PySem PySem.W PySem.Calls PyProof.Rows PySem.SeqAt
section
variable (c : Cx) (n : Nat)
abbrev qS (e : PS) (ρ : Rho) (K : Fl → Prop) : Prop := pS (FnIs c) (Tell c n) (GIs c) (GDs c) e ρ K
def SS (k : Nat) : Prop := ∀ (b : List Stmt) (env : Env) (ρ : Rho) (K : Fl → Prop) (A : Around) (E : Value → Shared → Prop) (s : Shared) (h₀ : Heap), EnvOk env → SR c h₀ env ρ s.heap → Ok n A →
  qS c n (cS k env.scope.names b) ρ K → wpAny (model c.prog c.w) A (execs b env) (Sv c h₀ env K s) E s
/-- a list comprehension that is stored under a name -/
def SCA (k : Nat) : Prop := ∀ (elt : Expr) (gens : List Comprehension) (sc : Scope) (vp px pos : Pos) (x : Str) (i : Nat) (env : Env) (ρ : Rho) (Q : D → Prop) (A : Around) (E : Value → Shared → Prop) (s : Shared) (h₀ : Heap), EnvOk env → SR c h₀ env ρ s.heap → Ok n A →
  env.scope.names.lookup x = some .local → nIdx env.scope.names x = some i → (px.line == vp.line && !(sc.names.any fun (m, k) => m == x && (k == .local || k == .cell))) = true →
  qE c n (cE k env.scope.names (.ListComp elt gens sc vp)) ρ Q →
  wpAny (model c.prog c.w) A (exec (.Assign [.Name x px] (.ListComp elt gens sc vp) pos) env) (fun f s' => f = .next ∧ Sm s s' ∧ KB env s.heap s'.heap ∧ ∃ d, Q d ∧ SR c h₀ env (put ρ i d) s'.heap) E s
end

section
variable {c : Cx} {n k : Nat} {A : Around} {E : Value → Shared → Prop} {s : Shared} {h₀ : Heap} {env : Env} {ρ : Rho}

theorem SR.seq {h h' : Heap} (x : SR c h₀ env ρ h) (k : KB env h h') : KeepSeq h h' := by
  obtain ⟨m, ⟨oL, es, ep, hoL, hdL, _⟩, _⟩ := x.ns
  have key : ∀ a o, h.get? a = some o → (∃ xs n, o.data = .seq xs n) → h'.get? a = some o := fun a o ho ⟨xs, n, hd⟩ => by
    refine k a o ?_ ?_ ho
    · rintro rfl; rw [hoL] at ho; cases ho; rw [hdL] at hd; cases hd
    · intro y e
      obtain ⟨v, o', ho', hd'⟩ := x.live y a e
      rw [ho] at ho'; cases ho'; rw [hd] at hd'; cases hd'
  exact ⟨fun a xs ⟨o, ho, hc, n, hd⟩ => ⟨o, key a o ho ⟨_, _, hd⟩, hc, n, hd⟩, fun a xs ⟨o, ho, hc, n, hd⟩ => ⟨o, key a o ho ⟨_, _, hd⟩, hc, n, hd⟩⟩

theorem Sm.tok' (s : Shared) (h : Heap) (t : Nat) : Sm s { s with heap := h, toks := t } := ⟨h, t, rfl⟩

theorem thenS {b : List Stmt} {st : Stmt} {K : Fl → Prop} {Post : Flow → Shared → Prop} (h : wpAny (model c.prog c.w) A (exec st env) Post E s)
    (next : ∀ s₁, Post .next s₁ → wpAny (model c.prog c.w) A (execs b env) (Sv c h₀ env K s) E s₁) (other : ∀ f s₁, f ≠ .next → Post f s₁ → Sv c h₀ env K s f s₁) :
    wpAny (model c.prog c.w) A (execs (st :: b) env) (Sv c h₀ env K s) E s := by
  refine wpAny_execs_cons (wpAny_mono h (fun f s₁ p => ?_) fun _ _ x => x)
  cases f with
  | next => exact next s₁ p
  | brk => exact other _ s₁ (by intro e; cases e) p
  | cont => exact other _ s₁ (by intro e; cases e) p
  | ret v => exact other _ s₁ (by intro e; cases e) p

-- behind an inner block
theorem Sv.then {K K' : Fl → Prop} {s₀ : Shared} {b : List Stmt} (m : Sm s₀ s) (kb : KB env s₀.heap s.heap) {f : Flow} {s₁ : Shared} (hf : Sv c h₀ env K' s f s₁)
    (hn : ∀ ρ', K' (.nx ρ') → ∀ s₁, SR c h₀ env ρ' s₁.heap → wpAny (model c.prog c.w) A (execs b env) (Sv c h₀ env K s₁) E s₁) (hr : ∀ d, K' (.rt d) → K (.rt d)) :
    match f with | .next => wpAny (model c.prog c.w) A (execs b env) (Sv c h₀ env K s₀) E s₁ | f => Sv c h₀ env K s₀ f s₁ := by
  obtain ⟨h1, h2, h3, ⟨ρ', rfl, R', hk⟩ | ⟨v, d, rfl, rd, hk⟩⟩ := hf
  · exact wpAny_mono (hn ρ' hk s₁ R') (fun f s₂ x => Sv.from (m.trans h1) (kb.trans h3) x) fun _ _ x => x
  · exact ⟨m.trans h1, h2, kb.trans h3, .inr ⟨v, d, rfl, rd, hr d hk⟩⟩

theorem set_no {it : Expr} (h : notSet it = true) (env : Env) : ∀ x, foldedSetIterable it env x = pure x := by
  intro x; cases it <;> first | rfl | (simp [notSet] at h)

theorem fresh_of {h : Heap} {a : Addr} (e : h.objs.size ≤ a) : h.get? a = none := by
  cases q : h.get? a with
  | none => rfl
  | some o => exact absurd (Heap.lt_size q) (Nat.not_lt.mpr e)

theorem SR.new {h : Heap} (x : SR c h₀ env ρ h) {a : Addr} (e : h.objs.size ≤ a) : h₀.get? a = none ∧ a ≠ env.locals ∧ ∀ y, env.cells.lookup y ≠ some a := by
  have hn := fresh_of e
  refine ⟨?_, ?_, ?_⟩
  · cases q : h₀.get? a with
    | none => rfl
    | some o => rw [x.keep a o q] at hn; cases hn
  · rintro rfl
    obtain ⟨m, ⟨o, _, _, ho, _⟩, _⟩ := x.ns
    rw [ho] at hn; cases hn
  · intro y q
    obtain ⟨v, o, ho, _⟩ := x.live y a q
    rw [ho] at hn; cases hn

/-- another object turns -/
theorem SR.turn {h h' : Heap} {a : Addr} {o : Obj} (x : SR c h₀ env ρ h) (hs : Heap.ExtBut a h h') (h1 : h₀.get? a = none) (h2 : a ≠ env.locals) (h3 : ∀ y, env.cells.lookup y ≠ some a)
    (ho : h.get? a = some o) (hd : ∀ xs n, o.data ≠ .seq xs n) : SR c h₀ env ρ h' ∧ KeepSeq h h' := by
  have ks : KeepSeq h h' := by
    constructor <;> rintro b xs ⟨o', ho', hc, n, hd'⟩ <;> refine ⟨o', hs b o' ?_ ho', hc, n, hd'⟩ <;> rintro rfl <;> rw [ho] at ho' <;> cases ho' <;> exact hd _ _ hd'
  refine ⟨x.move (fun b o' e => hs b o' (by rintro rfl; rw [h1] at e; cases e) (x.keep b o' e)) ks (fun o' e => hs _ o' (Ne.symm h2) e) (fun y b o' e q => hs b o' (by rintro rfl; exact h3 y e) q), ks⟩

theorem reps_cons {h : Heap} {ds : List D} {vs : List Value} {i : Nat} {d : D} (r : Reps h ds vs) (hi : ds[i]? = some d) : ∃ v, vs.toArray[i]? = some v ∧ Rep h d v := by
  obtain ⟨v, e, q⟩ := Reps.get r hi
  exact ⟨v, by simpa using e, q⟩

theorem sFor {x : Str} {xp : Pos} {i : Nat} {body : List Stmt} {pos : Pos} {it : Expr} {bp : PS} {K : Fl → Prop}
    (hB : ∀ (ρ : Rho) (K : Fl → Prop) (E : Value → Shared → Prop) (s : Shared), SR c h₀ env ρ s.heap → qS c n bp ρ K → wpAny (model c.prog c.w) A (execs body env) (Sv c h₀ env K s) E s)
    (ek : EnvOk env) (ok : Ok n A) (hl : env.scope.names.lookup x = some .local) (hi : nIdx env.scope.names x = some i) (hset : notSet it = true)
    {Q : D → Prop} (hq : ∀ d, Q d → ∃ ds, d = .list ds ∧ ds.length ≤ 1000 ∧ pFor ds (fun d ρ K => qS c n bp (put ρ i d) K) ρ K)
    (R : SR c h₀ env ρ s.heap) (hI : wpAny (model c.prog c.w) A (eval it env) (Gv Q s) E s) :
    wpAny (model c.prog c.w) A (exec (.For (.Name x xp) it body [] pos) env) (Sv c h₀ env K s) E s := by
  refine wpAny_For (thenE hI fun v s₁ d rd q ch => ?_) (set_no hset env)
  obtain ⟨ds, rfl, hlen, hp⟩ := hq d q
  obtain ⟨l, vs, rfl, tl, rl⟩ := rd
  have R₁ := R.ext ch.ext
  refine wpAny_pyIter_list tl ?_
  have hI₁ := R₁.new (Nat.le_refl _)
  generalize hI : s₁.heap.objs.size = I at hI₁ ⊢
  have ex : Ext s₁.heap (s₁.heap.push { cls := .type "list_iterator", data := .fields #[.ref l, .int 0 0] }) := Ext.push _ _
  have hit : (s₁.heap.push { cls := .type "list_iterator", data := .fields #[.ref l, .int 0 0] }).IsListIter I l 0 := hI ▸ ⟨_, Heap.get?_push_size _ rfl, rfl, rfl⟩
  have hsI : s.heap.get? I = none := by
    cases q' : s.heap.get? I with
    | none => rfl
    | some o => exact absurd (Heap.lt_size (ch.ext _ _ q')) (by rw [hI]; exact Nat.lt_irrefl _)
  refine codeAny_forLoop_any (fun m s' => ∃ (j : Nat) (ρ' : Rho), m + j = ds.length + 1 ∧ j ≤ ds.length ∧ Sm s s' ∧ KB env s.heap s'.heap ∧ SR c h₀ env ρ' s'.heap ∧ s'.heap.IsListIter I l j ∧ s'.heap.IsList l vs.toArray ∧ Reps s'.heap ds vs ∧
      pFor (ds.drop j) (fun d ρ K => qS c n bp (put ρ i d) K) ρ' K) ?_ (ds.length + 1)
    ⟨0, ρ, rfl, Nat.zero_le _, ch.sm.trans ⟨_, _, rfl⟩, KB.ext (fun b o e => ex b o (ch.ext b o e)), R₁.ext ex, hit, ⟨_, ex _ _ tl.choose_spec.1, tl.choose_spec.2⟩, rl.ext ex, by simpa using hp⟩
  rintro m s' ⟨j, ρ', hm, hj, sm, kb, R', hit', hl', rl', hp'⟩
  obtain ⟨oI, hoI, _, hdI⟩ := id hit'
  by_cases hlt : j < ds.length
  · have hd : ds[j]? = some ds[j] := List.getElem?_eq_getElem hlt
    obtain ⟨v, hv, rv⟩ := reps_cons rl' hd
    refine wpAny_pyNext_list_item hit' hl' hv fun h₂ hit₂ sb₂ => ?_
    obtain ⟨R₂, ks₂⟩ := R'.turn sb₂.extBut hI₁.1 hI₁.2.1 hI₁.2.2 hoI (by rw [hdI]; intro _ _ e; cases e)
    dsimp only
    refine wpAny_of_eq (a := ()) rfl ?_
    show wpAny _ _ (do standAt xp; bindName env x v) _ _ _
    refine wpAny_bind (wpAny_standAt (wpAny_mono (sStoreL (s := { s' with heap := h₂ }) R₂ ek hl hi (Rep.keep ks₂ _ _ rv)) (fun _ s₃ h₃ => ?_) fun _ _ e => e))
    obtain ⟨h₃, tk₃, rfl, sb₃, ks₃, R₃⟩ := h₃
    rw [show ds.drop j = ds[j] :: ds.drop (j + 1) by rw [List.drop_eq_getElem_cons hlt]] at hp'
    refine wpAny_mono (hB _ _ _ _ R₃ hp') (fun f s₄ sv => ?_) fun _ _ e => e
    obtain ⟨sm₄, e₄, kb₄, alt⟩ := sv
    have kbI : ∀ o, h₂.get? I = some o → s₄.heap.get? I = some o := fun o e => kb₄ I o hI₁.2.1 hI₁.2.2 (sb₃.extBut I o hI₁.2.1 e)
    have ks₄ := R₃.seq kb₄
    have kbw : KB env s.heap s₄.heap := fun b o n1 n2 e => kb₄ b o n1 n2 (sb₃.extBut b o n1 (sb₂.extBut b o (by rintro rfl; rw [hsI] at e; cases e) (kb b o n1 n2 e)))
    have smw : Sm s s₄ := sm.trans (Sm.trans ⟨_, _, rfl⟩ sm₄)
    rcases alt with ⟨ρ₄, rfl, R₄, hk⟩ | ⟨v₄, d₄, rfl, rd₄, hk⟩
    · refine ⟨m - 1, by omega, j + 1, ρ₄, by omega, by omega, smw, kbw, R₄, ?_, ?_, ?_, hk⟩
      · obtain ⟨o, ho, r⟩ := hit₂; exact ⟨o, kbI o ho, r⟩
      · exact ks₄.l _ _ (ks₃.l _ _ (ks₂.l _ _ hl'))
      · exact Reps.keep ks₄ _ _ (Reps.keep ks₃ _ _ (Reps.keep ks₂ _ _ rl'))
    · exact ⟨smw, e₄, kbw, .inr ⟨v₄, d₄, rfl, rd₄, hk⟩⟩
  · have hj' : j = ds.length := by omega
    have hn : vs.toArray[j]? = none := by
      have := Reps.length rl'
      simp; omega
    refine wpAny_pyNext_list_end ok.hd hit' hl' hn fun h₂ he => ?_
    obtain ⟨R₂, ks₂⟩ := R'.turn he hI₁.1 hI₁.2.1 hI₁.2.2 hoI (by rw [hdI]; intro _ _ e; cases e)
    rw [show ds.drop j = [] by rw [hj']; exact List.drop_length] at hp'
    refine wpAny_execs_nil ⟨sm.trans ⟨_, _, rfl⟩, R₂.keep, fun b o n1 n2 e => he b o (by rintro rfl; rw [hsI] at e; cases e) (kb b o n1 n2 e), .inl ⟨ρ', rfl, R₂, hp'⟩⟩

theorem sWhile {t : Expr} {body : List Stmt} {pos : Pos} {tp : PE} {bp : PS} {K : Fl → Prop}
    (hT : ∀ (ρ : Rho) (P N : Prop) (E : Value → Shared → Prop) (s : Shared), SR c h₀ env ρ s.heap → qT c n tp ρ P N → wpAny (model c.prog c.w) A (isTrue t env (eval t env)) (Tv P N s) E s)
    (hB : ∀ (ρ : Rho) (K : Fl → Prop) (E : Value → Shared → Prop) (s : Shared), SR c h₀ env ρ s.heap → qS c n bp ρ K → wpAny (model c.prog c.w) A (execs body env) (Sv c h₀ env K s) E s)
    (R : SR c h₀ env ρ s.heap) (N : Nat) (hp : pWhl (fun ρ P N => qT c n tp ρ P N) (fun ρ K => qS c n bp ρ K) N ρ K) :
    wpAny (model c.prog c.w) A (exec (.While t body [] pos) env) (Sv c h₀ env K s) E s := by
  refine wpAny_While ?_
  refine codeAny_whileLoop (fun m s' => ∃ ρ', Sm s s' ∧ KB env s.heap s'.heap ∧ SR c h₀ env ρ' s'.heap ∧ pWhl (fun ρ P N => qT c n tp ρ P N) (fun ρ K => qS c n bp ρ K) m ρ' K) ?_ N
    ⟨ρ, Sm.refl s, KB.ext fun _ _ e => e, R, hp⟩
  rintro m s' ⟨ρ', sm, kb, R', hp'⟩
  cases m with
  | zero => exact hp'.elim
  | succ m =>
    refine wpAny_mono (hT _ _ _ _ _ R' hp') (fun b s₂ t => ?_) fun _ _ e => e
    obtain ⟨ch, h1, h2⟩ := t
    have R₂ := R'.ext ch.ext
    cases b with
    | true =>
      refine wpAny_mono (hB _ _ _ _ R₂ (h1 rfl)) (fun f s₃ sv => ?_) fun _ _ e => e
      obtain ⟨sm₃, e₃, kb₃, alt⟩ := sv
      have kbw : KB env s.heap s₃.heap := kb.trans ((KB.ext ch.ext).trans kb₃)
      have smw : Sm s s₃ := sm.trans (ch.sm.trans sm₃)
      rcases alt with ⟨ρ₄, rfl, R₄, hk⟩ | ⟨v₄, d₄, rfl, rd₄, hk⟩
      · exact ⟨m, Nat.lt_succ_self _, ρ₄, smw, kbw, R₄, hk⟩
      · exact ⟨smw, e₃, kbw, .inr ⟨v₄, d₄, rfl, rd₄, hk⟩⟩
    | false =>
      exact wpAny_execs_nil ⟨sm.trans ch.sm, R₂.keep, kb.trans (KB.ext ch.ext), .inl ⟨ρ', rfl, R₂, h2 rfl⟩⟩
end
end
section
open PySem PySem.W PySem.Calls PyProof.Rows PySem.SeqAt
section
variable {c : Cx} {n k : Nat} {A : Around} {E : Value → Shared → Prop} {h₀ : Heap} {env : Env} {ρ : Rho}

theorem rest (hS : SS c n k) (ek : EnvOk env) (ok : Ok n A) {r : List Stmt} {K : Fl → Prop} {s s₁ : Shared} {ρ' : Rho} (m : Sm s s₁) (kb : KB env s.heap s₁.heap) (R : SR c h₀ env ρ' s₁.heap) (h : qS c n (cS k env.scope.names r) ρ' K) :
    wpAny (model c.prog c.w) A (execs r env) (Sv c h₀ env K s) E s₁ :=
  wpAny_mono (hS r env ρ' K A E s₁ h₀ ek R ok h) (fun _ _ x => Sv.from m kb x) fun _ _ e => e

theorem stepS (hE : ∀ j, SE c n j) (hT : ∀ j, ST c n j) (hA : ∀ j, SCA c n j) (hS : SS c n k) : SS c n (k + 1) := by
  intro b env ρ K A E s h₀ ek R ok h
  cases b with
  | nil =>
    simp only [cS, qS, pS] at h
    exact wpAny_execs_nil ⟨Sm.refl s, R.keep, KB.ext fun _ _ e => e, .inl ⟨ρ, rfl, R, h⟩⟩
  | cons st r =>
    simp only [cS] at h
    split at h
    · rename_i e p
      simp only [qS, pS] at h
      refine wpAny_execs_cons (wpAny_Return_some (thenE (hE k e env ρ _ A E s h₀ ek R ok h) fun v s₁ d rd q ch => ?_))
      exact ⟨ch.sm, (R.ext ch.ext).keep, KB.ext ch.ext, .inr ⟨v, d, rfl, rd, q⟩⟩
    · rename_i x px v p
      split at h
      · simp only [qS, pS] at h
      · rename_i hpl
        split at h
        · rename_i i hl hi
          split at h
          · rename_i hnc
            simp only [qS, pS] at h
            refine wpAny_execs_cons (wpAny_Assign_Name (thenE (hE k v env ρ _ A E s h₀ ek R ok h) fun v s₁ d rd q ch => ?_) (swaps_no hnc))
            have q := nameD_use q
            refine wpAny_mono (sStoreL' (R.ext ch.ext) ek hl hi rd) (fun _ s₂ h₂ => ?_) fun _ _ e => e
            obtain ⟨h', tk, rfl, sb, ks, R₂⟩ := h₂
            exact rest hS ek ok (ch.sm.trans ⟨_, _, rfl⟩) ((KB.ext ch.ext).trans (KB.same sb)) R₂ q
          · split at h
            · rename_i elt gens sc vp _
              split at h
              · rename_i hsw
                simp only [qS, pS] at h
                refine wpAny_execs_cons (wpAny_mono (hA k elt gens sc vp px p x i env ρ _ A E s h₀ ek R ok hl hi hsw h) (fun f s₁ hf => ?_) fun _ _ e => e)
                obtain ⟨rfl, sm, kb, d, q, R₁⟩ := hf
                exact rest hS ek ok sm kb R₁ (nameD_use q)
              · simp only [qS, pS] at h
            · simp only [qS, pS] at h
        · rename_i i hl hi
          split at h
          · rename_i hnc
            simp only [qS, pS] at h
            refine wpAny_execs_cons (wpAny_Assign_Name (thenE (hE k v env ρ _ A E s h₀ ek R ok h) fun v s₁ d rd q ch => ?_) (swaps_no hnc))
            have q := nameD_use q
            refine wpAny_mono (sStoreC' (R.ext ch.ext) ek hl hi rd) (fun _ s₂ h₂ => ?_) fun _ _ e => e
            obtain ⟨h', tk, a, rfl, ha, sb, R₂⟩ := h₂
            exact rest hS ek ok (ch.sm.trans ⟨_, _, rfl⟩) ((KB.ext ch.ext).trans (fun b o n1 n2 e => sb.extBut b o (by rintro rfl; exact n2 _ ha) e)) R₂ q
          · simp only [qS, pS] at h
        · simp only [qS, pS] at h
    · rename_i x px y py v p
      split at h
      · rename_i hc
        simp only [Bool.and_eq_true] at hc
        split at h
        · rename_i i j hn
          simp only [qS, pS] at h
          obtain ⟨x', p', i', l, e1, h1, h2, h3, e2⟩ := cNames_cons hn
          cases e1; cases e2
          obtain ⟨y', p'', j', l', e1, g1, g2, g3, e2⟩ := cNames_cons h3
          cases e1; cases e2
          refine wpAny_execs_cons (wpAny_Assign_two (t₁ := .Name x px) (t₂ := .Name y py) (thenE (hE k v env ρ _ A E s h₀ ek R ok h) fun v s₁ d rd q ch => ?_))
          refine wpAny_mono (stores_assign (p := px) h1 h2 h₀ ρ d v A E s₁ ek (R.ext ch.ext) rd) (fun _ s₂ hh => ?_) fun _ _ e => e
          obtain ⟨h', tk, rfl, sb, ks, R₂⟩ := hh
          refine wpAny_mono (stores_assign (p := py) g1 g2 h₀ _ d v A E _ ek R₂ (Rep.keep ks _ _ rd)) (fun _ s₃ hh => ?_) fun _ _ e => e
          obtain ⟨h'', tk', rfl, sb', ks', R₃⟩ := hh
          exact rest hS ek ok (ch.sm.trans ⟨_, _, rfl⟩) ((KB.ext ch.ext).trans ((KB.same sb).trans (KB.same sb'))) R₃ q
        · simp only [qS, pS] at h
      · simp only [qS, pS] at h
    · rename_i ts kk tp v p
      split at h
      · simp only [qS, pS] at h
      · rename_i hnc
        have hnc : notComp v = true := by simpa using hnc
        split at h
        · rename_i xs hn
          split at h
          · rename_i hsw
            simp only [qS, pS] at h
            have hv : ∃ vs kv pv, v = .Tuple vs kv pv := by
              cases v <;> first | exact ⟨_, _, _, rfl⟩ | (simp [swaps] at hsw)
            obtain ⟨vs, kv, pv, rfl⟩ := hv
            refine wpAny_execs_cons (Assign_Tuple_swapped (names := namesOf ts) (thenE (hE k _ env ρ _ A E s h₀ ek R ok h) fun v s₁ d rd q ch => ?_) (swapsSole_no hnc) (swapped_yes ek hsw hn))
            split at q
            · rename_i ds
              obtain ⟨a, us, rfl, ta, ra⟩ := rd
              obtain ⟨b1, b2⟩ := names_bind (c := c) (env := env) ts xs hn
              have l1 := Reps.length ra
              have l2 := b1.length
              have e : (namesOf ts).length = us.toArray.size := by
                simp only [List.length_map] at l2
                simp only [List.size_toArray, l1, l2, q.1]
              rw [e]
              refine wpAny_unpackItems_tuple ok.hd ta fun h' he => ?_
              have R₁ := R.ext ch.ext
              have ex : Ext s₁.heap h' := fun b o e => he b o (Nat.ne_of_lt (Heap.lt_size e)) e
              have b3 := b1.reverse
              rw [← List.map_reverse] at b3
              refine wpAny_mono (sOrder (s := { s₁ with heap := h' }) ek _ _ _ _ _ _ b3 (R₁.ext ex) (ra.ext ex).reverse q.2) (fun _ s₂ hh => ?_) fun _ _ e => e
              obtain ⟨sm, kb, ρ', R₂, hq⟩ := hh
              exact rest hS ek ok (ch.sm.trans (Sm.trans ⟨_, _, rfl⟩ sm)) ((KB.ext fun b o e => ex b o (ch.ext b o e)).trans kb) R₂ hq
            · exact q.elim
          · split at h
            · simp only [qS, pS] at h
            · rename_i h2
              simp only [qS, pS] at h
              refine wpAny_execs_cons (Assign_Tuple (thenE (hE k _ env ρ _ A E s h₀ ek R ok h) fun v s₁ d rd q ch => ?_) (swapsSole_no hnc) (swapped_no (by simpa using h2)))
              split at q
              · rename_i ds
                obtain ⟨a, us, rfl, ta, ra⟩ := rd
                obtain ⟨b1, b2, b3, b4⟩ := names_assign (c := c) (env := env) ts xs hn
                have l1 := Reps.length ra
                refine PySem.wpAny_assign_Tuple ok.hd ta (by rw [b2, b4, q.1]; simp [l1]) b3 fun h' he => ?_
                have ex : Ext s₁.heap h' := fun b o e => he b o (Nat.ne_of_lt (Heap.lt_size e)) e
                refine wpAny_mono (sOrder (s := { s₁ with heap := h' }) ek _ _ _ _ _ _ b1 ((R.ext ch.ext).ext ex) (ra.ext ex) q.2) (fun _ s₂ hh => ?_) fun _ _ e => e
                obtain ⟨sm, kb, ρ', R₂, hq⟩ := hh
                exact rest hS ek ok (ch.sm.trans (Sm.trans ⟨_, _, rfl⟩ sm)) ((KB.ext fun b o e => ex b o (ch.ext b o e)).trans kb) R₂ hq
              · exact q.elim
        · simp only [qS, pS] at h
    · rename_i x xp o v p
      split at h
      · rename_i i hl hi
        split at h
        · rename_i hpl
          simp only [qS, pS] at h
          split at h
          · rename_i z hd
            refine wpAny_execs_cons (wpAny_AugAssign_Name ?_)
            obtain ⟨m, hn, hm⟩ := R.ns
            obtain ⟨u, e, ru⟩ := hm x i _ hi hd hl
            refine wpAny_loadName_local ek.k hl hn e ?_
            refine thenE (hE k v env ρ _ A E s h₀ ek R ok h) fun v s₁ d₁ rd q ch => ?_
            refine thenE (sAug q (ru.ext ch.ext) rd) fun w s₂ d₂ rd₂ q₂ ch₂ => ?_
            refine wpAny_mono (sStoreL' (R.ext (ch.trans ch₂).ext) ek hl hi rd₂) (fun _ s₃ hh => ?_) fun _ _ e => e
            obtain ⟨h', tk, rfl, sb, ks, R₂⟩ := hh
            exact rest hS ek ok ((ch.trans ch₂).sm.trans ⟨_, _, rfl⟩) ((KB.ext (ch.trans ch₂).ext).trans (KB.same sb)) R₂ (nameD_use q₂)
          · exact h.elim
        · simp only [qS, pS] at h
      · simp only [qS, pS] at h
    · rename_i t b o p
      simp only [qS, pS] at h
      refine wpAny_execs_cons (wpAny_If (wpAny_mono (hT k t env ρ _ _ A E s h₀ ek R ok h) (fun b' s₁ tt => ?_) fun _ _ e => e))
      obtain ⟨ch, h1, h2⟩ := tt
      have R₁ := R.ext ch.ext
      cases b' with
      | true =>
        refine wpAny_mono (hS b env ρ _ A E s₁ h₀ ek R₁ ok (h1 rfl)) (fun f s₂ sv => ?_) fun _ _ e => e
        exact Sv.then ch.sm (KB.ext ch.ext) sv (fun ρ' hk s₃ R₃ => hS r env ρ' K A E s₃ h₀ ek R₃ ok hk) fun d hk => hk
      | false =>
        refine wpAny_mono (hS o env ρ _ A E s₁ h₀ ek R₁ ok (h2 rfl)) (fun f s₂ sv => ?_) fun _ _ e => e
        exact Sv.then ch.sm (KB.ext ch.ext) sv (fun ρ' hk s₃ R₃ => hS r env ρ' K A E s₃ h₀ ek R₃ ok hk) fun d hk => hk
    · rename_i t m p
      simp only [qS, pS] at h
      refine wpAny_execs_cons (wpAny_Assert_holds (wpAny_mono (hT k t env ρ _ _ A E s h₀ ek R ok h) (fun b' s₁ tt => ?_) fun _ _ e => e))
      obtain ⟨ch, h1, h2⟩ := tt
      cases b' with
      | true => exact ⟨rfl, rest hS ek ok ch.sm (KB.ext ch.ext) (R.ext ch.ext) (h1 rfl)⟩
      | false => exact (h2 rfl).elim
    · rename_i x xp it b p
      split at h
      · rename_i i hl hi
        split at h
        · rename_i hc
          simp only [Bool.and_eq_true] at hc
          simp only [qS, pS] at h
          refine wpAny_execs_cons (wpAny_mono (sFor (K := fun fl => match fl with | .nx ρ' => qS c n (cS k env.scope.names r) ρ' K | .rt v => K (.rt v)) (bp := cS k env.scope.names b)
            (fun ρ K E s R h => hS b env ρ K A E s h₀ ek R ok h) ek ok hl hi hc.2 (fun d hq => ?_) R (hE k it env ρ _ A E s h₀ ek R ok h)) (fun f s₂ sv => ?_) fun _ _ e => e)
          · split at hq
            · exact ⟨_, rfl, hq.1, hq.2⟩
            · exact hq.elim
          · exact Sv.then (Sm.refl s) (KB.ext fun _ _ e => e) sv (fun ρ' hk s₃ R₃ => hS r env ρ' K A E s₃ h₀ ek R₃ ok hk) fun d hk => hk
        · simp only [qS, pS] at h
      · simp only [qS, pS] at h
    · rename_i t b p
      simp only [qS, pS] at h
      obtain ⟨N, h⟩ := h
      refine wpAny_execs_cons (wpAny_mono (sWhile (K := fun fl => match fl with | .nx ρ' => qS c n (cS k env.scope.names r) ρ' K | .rt v => K (.rt v)) (tp := cT k env.scope.names t) (bp := cS k env.scope.names b)
        (fun ρ P N E s R h => hT k t env ρ P N A E s h₀ ek R ok h) (fun ρ K E s R h => hS b env ρ K A E s h₀ ek R ok h) R N h) (fun f s₂ sv => ?_) fun _ _ e => e)
      exact Sv.then (Sm.refl s) (KB.ext fun _ _ e => e) sv (fun ρ' hk s₃ R₃ => hS r env ρ' K A E s₃ h₀ ek R₃ ok hk) fun d hk => hk
    · simp only [qS, pS] at h
end
end
section
open PySem PySem.W PySem.Calls PyProof.Rows PySem.SeqAt
def clOf (cells : List (Str × Addr)) : Names → List (Str × Addr) → List (Str × Addr)
  | [], cs => cs
  | (m, k) :: r, cs => if k == .free then (match cells.lookup m with | some a => clOf cells r ((m, a) :: cs) | none => clOf cells r cs) else clOf cells r cs

theorem closure_loop {env : Env} (f : Str × NameKind → List (Str × Addr) → Sem (ForInStep (List (Str × Addr))))
    (hf : ∀ m k cs, f (m, k) cs = if (k == NameKind.free) = true then (cellOf env m >>= fun a => pure (ForInStep.yield ((m, a) :: cs))) else pure (ForInStep.yield cs)) :
    ∀ (names : Names) (cs : List (Str × Addr)), (∀ y ∈ names, y.2 = .free → ∃ a, env.cells.lookup y.1 = some a) → forIn names cs f = pure (clOf env.cells names cs) := by
  intro names
  induction names with
  | nil => intro cs _; rfl
  | cons y r ih =>
    intro cs hh
    obtain ⟨m, k⟩ := y
    rw [List.forIn_cons, hf]
    have hr := fun y hy => hh y (List.mem_cons_of_mem _ hy)
    by_cases hk : (k == NameKind.free) = true
    · obtain ⟨a, ha⟩ := hh (m, k) List.mem_cons_self (eq_of_beq hk)
      simp only at ha
      have hc : cellOf env m = pure a := by unfold cellOf; rw [ha]
      simp only [hk, if_true, hc, pure_bind, clOf, ha]
      exact ih _ hr
    · have hk' : (k == NameKind.free) = false := by simpa using hk
      simp only [hk', Bool.false_eq_true, if_false, pure_bind, clOf]
      exact ih _ hr
theorem closure_eq {sc : Scope} {env : Env} (h : ∀ y ∈ sc.names, y.2 = .free → ∃ a, env.cells.lookup y.1 = some a) : closureFor sc env = pure (clOf env.cells sc.names []) := by
  unfold closureFor
  show (forIn sc.names [] _ >>= fun cs => pure cs) = _
  rw [closure_loop _ (fun m k cs => by cases k <;> rfl) sc.names [] h]
  rfl

theorem clOf_some {cells : List (Str × Addr)} : ∀ {names : Names} {cs : List (Str × Addr)} {x : Str} {a : Addr}, (∀ y b, cs.lookup y = some b → cells.lookup y = some b) → (clOf cells names cs).lookup x = some a → cells.lookup x = some a
  | [], cs, x, a, hc, h => hc x a h
  | (m, k) :: r, cs, x, a, hc, h => by
    unfold clOf at h
    split at h
    · split at h
      · rename_i b hb
        refine clOf_some (fun y b' e => ?_) h
        rw [List.lookup_cons] at e
        split at e
        · rename_i q; cases e; rw [eq_of_beq q]; exact hb
        · exact hc y b' e
      · exact clOf_some hc h
    · exact clOf_some hc h
theorem clOf_has {cells : List (Str × Addr)} {x : Str} {a : Addr} (ha : cells.lookup x = some a) : ∀ {names : Names} {cs : List (Str × Addr)}, (∀ y b, cs.lookup y = some b → cells.lookup y = some b) → ((cs.lookup x).isSome = true ∨ (x, NameKind.free) ∈ names) → (clOf cells names cs).lookup x = some a
  | [], cs, hc, h => by
    rcases h with h | h
    · obtain ⟨b, hb⟩ := Option.isSome_iff_exists.mp h
      have := hc x b hb
      rw [ha] at this; cases this
      exact hb
    · cases h
  | (m, k) :: r, cs, hc, h => by
    unfold clOf
    split
    · rename_i hk
      split
      · rename_i b hb
        refine clOf_has ha (fun y b' e => ?_) ?_
        · rw [List.lookup_cons] at e
          split at e
          · rename_i q; cases e; rw [eq_of_beq q]; exact hb
          · exact hc y b' e
        · rcases h with h | h
          · left; rw [List.lookup_cons]; split
            · rfl
            · exact h
          · cases h with
            | head => left; rw [List.lookup_cons]; simp
            | tail _ h => exact .inr h
      · rename_i hb
        refine clOf_has ha hc ?_
        rcases h with h | h
        · exact .inl h
        · cases h with
          | head => rw [ha] at hb; cases hb
          | tail _ h => exact .inr h
    · rename_i hk
      refine clOf_has ha hc ?_
      rcases h with h | h
      · exact .inl h
      · cases h with
        | head => simp at hk
        | tail _ h => exact .inr h

theorem relab_cons (nm : Names) (m : Str) (k : NameKind) (r : Names) : relab nm ((m, k) :: r) = (m, if (k == .free && nm.lookup m == some .cell) = true then .cell else k) :: relab nm r := by
  show (if (k == NameKind.free && nm.lookup m == some NameKind.cell) = true then (m, NameKind.cell) else (m, k)) :: relab nm r = _
  split <;> rfl
theorem lookup_relab {nm : Names} : ∀ {inner : Names} {x : Str}, (relab nm inner).lookup x = (inner.lookup x).map fun k => if (k == .free && nm.lookup x == some .cell) = true then .cell else k
  | [], x => rfl
  | (m, k) :: r, x => by
    have ih := @lookup_relab nm r x
    rw [relab_cons, List.lookup_cons, List.lookup_cons]
    by_cases hx : x = m
    · subst hx; simp only [beq_self_eq_true]; rfl
    · have hb : (x == m) = false := beq_eq_false_iff_ne.mpr hx
      simp only [hb]; exact ih
theorem nIdx_relab {nm inner : Names} {x : Str} : nIdx (relab nm inner) x = nIdx inner x := by
  unfold nIdx relab
  rw [List.findIdx?_map]
  congr 1
  funext y
  obtain ⟨m, k⟩ := y
  show ((if (k == NameKind.free && nm.lookup m == some NameKind.cell) = true then (m, NameKind.cell) else (m, k)).1 == x) = (m == x)
  split <;> rfl
theorem relabel_names {sc : Scope} {env : Env} (ek : EnvOk env) : (relabel sc env).names = relab env.scope.names sc.names := by
  unfold relabel relab
  simp only [ek.k, beq_self_eq_true, Bool.and_true]
  rfl

theorem lookup_mem {nm : Names} {x : Str} {k : NameKind} (h : nm.lookup x = some k) : (x, k) ∈ nm := mem_of_lookup h
theorem look_cap {caps : List (Option Nat)} {ρ : Rho} : ∀ {i : Nat} {d : D}, look (capR caps ρ) i = some d → ∃ j, caps[i]? = some (some j) ∧ look ρ j = some d := by
  induction caps with
  | nil => intro i d h; simp [capR, look] at h
  | cons o r ih =>
    intro i d h
    cases i with
    | zero =>
      simp only [capR, List.map_cons, look] at h
      cases o with
      | none => cases h
      | some j => exact ⟨j, rfl, h⟩
    | succ i => simpa using ih (by simpa [capR, look] using h)

theorem nIdx_get {nm : Names} {x : Str} {i : Nat} (h : nIdx nm x = some i) : ∃ k, nm[i]? = some (x, k) ∧ nm.lookup x = some k := by
  unfold nIdx at h
  rw [List.findIdx?_eq_some_iff_getElem] at h
  obtain ⟨hi, h1, h2⟩ := h
  refine ⟨nm[i].2, ?_, ?_⟩
  · rw [List.getElem?_eq_getElem hi]
    have := eq_of_beq h1
    rw [← this]
  · induction nm generalizing i with
    | nil => simp at hi
    | cons y r ih =>
      obtain ⟨m, k⟩ := y
      cases i with
      | zero => simp only [List.getElem_cons_zero] at h1 ⊢; rw [List.lookup_cons, ← eq_of_beq h1]; simp
      | succ i =>
        have h0 := h2 0 (by omega)
        simp only [List.getElem_cons_zero] at h0
        have hx : (x == m) = false := by
          rw [beq_eq_false_iff_ne]; rintro rfl; simp at h0
        rw [List.lookup_cons]
        simp only [hx, List.getElem_cons_succ]
        exact ih (by simpa using hi) (by simpa using h1) fun j hj => by simpa using h2 (j + 1) (by omega)

theorem scopeOk_parts {sc : Scope} (h : scopeOk sc = true) : sc.kind = .function ∧ (∀ y ∈ sc.names, y.2 ≠ .cell) ∧ (∀ y ∈ sc.names, y.2 = .local → sc.names.lookup y.1 = some .local) ∧ (∀ y ∈ sc.names, y.2 = .free → sc.names.lookup y.1 = some .free) := by
  simp only [scopeOk, Bool.and_eq_true, beq_iff_eq, List.all_eq_true] at h
  obtain ⟨⟨⟨⟨h1, h2⟩, h3⟩, h4⟩, _⟩ := h
  refine ⟨h1, fun y hy e => ?_, fun y hy e => ?_, fun y hy e => ?_⟩
  · have := h2 y hy; rw [e] at this; simp at this
  · have := h3 y hy; simpa [e] using this
  · have := h4 y hy; simpa [e] using this
theorem freeOk_parts {nm inner : Names} (h : freeOk nm inner = true) : ∀ y ∈ inner, y.2 = .free → nm.lookup y.1 = some .cell := by
  intro y hy e
  simp only [freeOk, List.all_eq_true] at h
  have := h y hy
  obtain ⟨m, k⟩ := y
  simp only at this e
  subst e
  simpa using this

/-- the frame of a comprehension bears what it takes from around -/
theorem mkSR {c : Cx} {h₀ h H : Heap} {env : Env} {ρ : Rho} {sc : Scope} {C : Addr} {m : Str → Option Value} (R : SR c h₀ env ρ h) (ek : EnvOk env) (so : scopeOk sc = true) (fo : freeOk env.scope.names sc.names = true)
    (k : Ext h H) (hC : H.Ns C m) (hf : h.objs.size ≤ C) : SR c h₀ (compEnvC sc (clOf env.cells sc.names []) C env) (capR (capsOf env.scope.names sc.names) ρ) H := by
  obtain ⟨s1, s2, s3, s4⟩ := scopeOk_parts so
  have fr := freeOk_parts fo
  have en : (compEnvC sc (clOf env.cells sc.names []) C env).scope.names = relab env.scope.names sc.names := relabel_names ek
  have back : ∀ {x a}, (clOf env.cells sc.names []).lookup x = some a → env.cells.lookup x = some a := fun h => clOf_some (fun _ _ e => by cases e) h
  have capd : ∀ {x i d}, nIdx sc.names x = some i → look (capR (capsOf env.scope.names sc.names) ρ) i = some d → sc.names.lookup x = some .free ∧ (x, NameKind.free) ∈ sc.names ∧ ∃ j, nIdx env.scope.names x = some j ∧ look ρ j = some d := by
    intro x i d h1 h2
    obtain ⟨j, hj, hd⟩ := look_cap h2
    obtain ⟨kk, g1, g2⟩ := nIdx_get h1
    unfold capsOf at hj
    rw [List.getElem?_map, g1] at hj
    simp only [Option.map_some, Option.some.injEq] at hj
    by_cases hk : (kk == NameKind.free) = true
    · rw [if_pos hk] at hj
      have := eq_of_beq hk; subst this
      exact ⟨g2, lookup_mem g2, j, (cVar_parts hj).2.2, hd⟩
    · rw [if_neg hk] at hj; cases hj
  have hfree : ∀ a, h.objs.size ≤ a → h₀.get? a = none := fun a ha => (R.new ha).1
  refine ⟨R.w, fun b o e => k b o (R.keep b o e), hfree C hf, ⟨m, hC, ?_⟩, ?_, ?_, ?_, ?_⟩
  · intro x i d h1 h2 h3
    rw [en] at h1 h3
    rw [nIdx_relab] at h1
    obtain ⟨q1, q2, j, q3, q4⟩ := capd h1 h2
    rw [lookup_relab, q1, Option.map_some, fr _ q2 rfl] at h3
    simp at h3
  · intro x i d h1 h2 h3
    rw [en] at h1
    rw [nIdx_relab] at h1
    obtain ⟨q1, q2, j, q3, q4⟩ := capd h1 h2
    obtain ⟨a, v, ea, hc, r⟩ := R.cell x j d q3 q4 (.inl (fr _ q2 rfl))
    exact ⟨a, v, clOf_has ea (fun _ _ e => by cases e) (.inr q2), hc.keeps k, r.ext k⟩
  · intro x h1
    rw [en, lookup_relab] at h1
    obtain ⟨kk, q1, q2⟩ := Option.map_eq_some_iff.mp h1
    split at q2
    · rename_i hc
      simp only [Bool.and_eq_true, beq_iff_eq] at hc
      obtain ⟨a, ea, hf⟩ := R.cells x hc.2
      rw [hc.1] at q1
      exact ⟨a, clOf_has ea (fun _ _ e => by cases e) (.inr (lookup_mem q1)), hf⟩
    · subst q2; exact absurd rfl (s2 _ (lookup_mem q1))
  · intro x a e
    obtain ⟨v, hc⟩ := R.live x a (back e)
    exact ⟨v, hc.keeps k⟩
  · intro x y a e1 e2
    exact R.apart x y a (back e1) (back e2)
theorem compEnvOk {env : Env} {sc : Scope} {cl : List (Str × Addr)} {C : Addr} (ek : EnvOk env) (so : scopeOk sc = true) : EnvOk (compEnvC sc cl C env) :=
  ⟨ek.g, ek.b, (scopeOk_parts so).1⟩
end
section
open PySem PySem.W PySem.Calls PyProof.Rows PySem.SeqAt
/-- an iterator I over the value v, whose items stand in g -/
def It (g h : Heap) (I : Addr) (v : Value) (ds : List D) (j : Nat) : Prop :=
  (∃ l vs, v = .ref l ∧ g.IsList l vs.toArray ∧ Reps g ds vs ∧ h.IsListIter I l j) ∨ (∃ l vs, v = .ref l ∧ g.IsTuple l vs.toArray ∧ Reps g ds vs ∧ h.IsTupleIter I l j)

theorem It.obj {g h : Heap} {I : Addr} {v : Value} {ds : List D} {j : Nat} (x : It g h I v ds j) : ∃ o fs, h.get? I = some o ∧ (o.cls = .type "list_iterator" ∨ o.cls = .type "tuple_iterator") ∧ o.data = .fields fs := by
  rcases x with ⟨l, vs, _, _, _, o, ho, hc, hd⟩ | ⟨l, vs, _, _, _, o, ho, hc, hd⟩
  · exact ⟨o, _, ho, .inl hc, hd⟩
  · exact ⟨o, _, ho, .inr hc, hd⟩
theorem It.at {g h h' : Heap} {I : Addr} {v : Value} {ds : List D} {j : Nat} (x : It g h I v ds j) (k : ∀ o, h.get? I = some o → h'.get? I = some o) : It g h' I v ds j := by
  rcases x with ⟨l, vs, e, a, b, o, ho, r⟩ | ⟨l, vs, e, a, b, o, ho, r⟩
  · exact .inl ⟨l, vs, e, a, b, o, k o ho, r⟩
  · exact .inr ⟨l, vs, e, a, b, o, k o ho, r⟩

section
variable {prog : Program} {w : World} {A : Around} {E : Value → Shared → Prop} {s : Shared}

theorem sIter {d : D} {ds : List D} {v : Value} {Q : Value → Shared → Prop} (r : Rep s.heap d v) (hi : dItems d = some ds)
    (hQ : ∀ h', Ext s.heap h' → It s.heap h' s.heap.objs.size v ds 0 → h'.objs.size = s.heap.objs.size + 1 → Q (.ref s.heap.objs.size) { s with heap := h' }) : wpAny (model prog w) A (pyIter v) Q E s := by
  cases d <;> simp [dItems] at hi
  · subst hi
    obtain ⟨l, vs, rfl, tl, rl⟩ := r
    exact wpAny_pyIter_tuple tl (hQ _ (Ext.push _ _) (.inr ⟨l, vs, rfl, tl, rl, _, Heap.get?_push_size _ rfl, rfl, rfl⟩) (Heap.size_push ..))
  · subst hi
    obtain ⟨l, vs, rfl, tl, rl⟩ := r
    exact wpAny_pyIter_list tl (hQ _ (Ext.push _ _) (.inl ⟨l, vs, rfl, tl, rl, _, Heap.get?_push_size _ rfl, rfl, rfl⟩) (Heap.size_push ..))

theorem sAgain {g : Heap} {I : Addr} {v : Value} {ds : List D} {j : Nat} {Q : Value → Shared → Prop} (x : It g s.heap I v ds j) (h : Q (.ref I) s) : wpAny (model prog w) A (pyIter (.ref I)) Q E s := by
  rcases x with ⟨l, vs, e, a, b, hit⟩ | ⟨l, vs, e, a, b, hit⟩
  · exact wpAny_pyIter_listiter hit h
  · exact wpAny_pyIter_tupleiter hit h

theorem isList_ext {h h' : Heap} (k : Ext h h') {a : Addr} {xs : Array Value} (x : h.IsList a xs) : h'.IsList a xs := (KeepSeq.of k).l a xs x
theorem isTuple_ext {h h' : Heap} (k : Ext h h') {a : Addr} {xs : Array Value} (x : h.IsTuple a xs) : h'.IsTuple a xs := (KeepSeq.of k).t a xs x

theorem sNext {g : Heap} {I : Addr} {v : Value} {ds : List D} {j : Nat} {d : D} {Q : Option Value → Shared → Prop} (x : It g s.heap I v ds j) (k : Ext g s.heap) (hd : ds[j]? = some d)
    (hQ : ∀ u h', Rep g d u → Heap.SameBut I s.heap h' → It g h' I v ds (j + 1) → Q (some u) { s with heap := h' }) : wpAny (model prog w) A (pyNext (.ref I)) Q E s := by
  rcases x with ⟨l, vs, e, a, b, hit⟩ | ⟨l, vs, e, a, b, hit⟩
  · obtain ⟨u, hu, ru⟩ := reps_cons b hd
    exact wpAny_pyNext_list_item hit (isList_ext k a) hu fun h' hit' hs => hQ u h' ru hs (.inl ⟨l, vs, e, a, b, hit'⟩)
  · obtain ⟨u, hu, ru⟩ := reps_cons b hd
    exact wpAny_pyNext_tuple_item hit (isTuple_ext k a) hu fun h' hit' hs => hQ u h' ru hs (.inr ⟨l, vs, e, a, b, hit'⟩)

theorem sEnd {g : Heap} {I : Addr} {v : Value} {ds : List D} {j : Nat} {Q : Option Value → Shared → Prop} (x : It g s.heap I v ds j) (k : Ext g s.heap) (hh : A.handled = none) (hj : j = ds.length)
    (hQ : ∀ h', Heap.ExtBut I s.heap h' → Q none { s with heap := h' }) : wpAny (model prog w) A (pyNext (.ref I)) Q E s := by
  rcases x with ⟨l, vs, e, a, b, hit⟩ | ⟨l, vs, e, a, b, hit⟩
  · have := Reps.length b
    exact wpAny_pyNext_list_end hh hit (isList_ext k a) (by simp; omega) fun h' hs => hQ h' hs
  · have := Reps.length b
    exact wpAny_pyNext_tuple_end hh hit (isTuple_ext k a) (by simp; omega) fun h' hs => hQ h' hs

theorem sOwned {g : Heap} {I : Addr} {v u : Value} {ds : List D} {j : Nat} {target : Expr} {Q : Unit → Shared → Prop} (x : It g s.heap I v ds j) (h : Q () s) : wpAny (model prog w) A (letOwnedTupleGo target (.ref I) u) Q E s := by
  obtain ⟨o, fs, ho, hc, hd⟩ := x.obj
  have key : wpAny (model prog w) A (do
      let o ← load I
      match o.cls, o.data with
      | .type n, .fields vs =>
        if ["enumerate", "zip", "dict_itemiterator", "dict_reverseitemiterator", "odict_iterator", "itertools.zip_longest", "itertools.pairwise"].contains n && vs[0]? == some (rawInt 0) then
          pure ()
      | _, _ => pure () : Sem Unit) Q E s → True := fun _ => trivial
  cases target <;> first | exact wpAny_pure h | skip
  all_goals
    cases u <;> first | exact wpAny_pure h | skip
    unfold letOwnedTupleGo
    refine wpAny_bind (wpAny_load ho ?_)
    rcases hc with hc | hc <;> rw [hc, hd] <;> exact wpAny_pure h

theorem codeAny_loopB {elt : Expr} {gens : List Comprehension} {dep : Nat} {p : Pos} {target : Expr} {scope : Scope} {pos : Pos} {it acc : Value} {env : Env} {body : Sem Unit} {R : Result → Shared → Prop}
    (ht : compTurn (.ListComp elt gens scope pos) dep it acc env = (standAt p >>= fun _ => pyNext it >>= fun r => match r with
      | none => pure (.done .next)
      | some v => letOwnedTupleGo target it v >>= fun _ => assign target env v >>= fun _ => body >>= fun _ => again (.compLoop (.ListComp elt gens scope pos) dep it acc env)))
    (I : Nat → Shared → Prop)
    (turn : ∀ n s, I n s → wpAny (model prog w) A (pyNext it) (fun r s₁ => match r with
      | none => R (.ok .next) s₁
      | some v => wpAny (model prog w) A (letOwnedTupleGo target it v) (fun _ s₁' => wpAny (model prog w) A (assign target env v) (fun _ s₂ => wpAny (model prog w) A body (fun _ s₄ => ∃ m, m < n ∧ I m s₄)
          (notedBy (model prog w) A env fun e s' => R (.error e) s') s₂) (notedBy (model prog w) A env fun e s' => R (.error e) s') s₁') (notedBy (model prog w) A env fun e s' => R (.error e) s') s₁) (notedBy (model prog w) A env fun e s' => R (.error e) s') s)
    (n : Nat) (h : I n s) :
    codeAny (model prog w) A (.compLoop (.ListComp elt gens scope pos) dep it acc env) R s := by
  refine codeAny_loop rfl I (fun n s hI => ?_) n h
  show wpAny _ _ ((compTurn (.ListComp elt gens scope pos) dep it acc env).onRaise (fun x => do noteFrame x env; theTreesLotGoes x)) _ _ s
  refine wpAny_noted ?_
  rw [ht]
  refine wpAny_bind (wpAny_standAt (wpAny_bind (wpAny_mono (turn n s hI) (fun r s₁ h₁ => ?_) fun _ _ h' => h')))
  cases r with
  | none => exact wpAny_pure h₁
  | some v =>
    refine wpAny_bind (wpAny_mono h₁ (fun _ s₁' h₁' => ?_) fun _ _ h' => h')
    exact wpAny_bind (wpAny_mono h₁' (fun _ s₂ h₂ => wpAny_bind (wpAny_mono h₂ (fun _ s₄ h₄ => wpAny_pure ⟨rfl, h₄⟩) fun _ _ h' => h')) fun _ _ h' => h')

theorem turn1 (elt target iter : Expr) (scope : Scope) (pos : Pos) (it acc : Value) (env : Env) :
    compTurn (.ListComp elt [⟨target, iter, [], 0⟩] scope pos) 0 it acc env = (standAt iter.pos >>= fun _ => pyNext it >>= fun r => match r with
      | none => pure (.done .next)
      | some v => letOwnedTupleGo target it v >>= fun _ => assign target env v >>= fun _ =>
        (eval elt env >>= fun x => call (.builtin "list.append") [acc, x] >>= fun _ => pure ()) >>= fun _ =>
          again (.compLoop (.ListComp elt [⟨target, iter, [], 0⟩] scope pos) 0 it acc env)) := by rfl
theorem turn2b (elt t₁ i₁ t₂ i₂ : Expr) (scope : Scope) (pos : Pos) (it acc : Value) (env : Env) :
    compTurn (.ListComp elt [⟨t₁, i₁, [], 0⟩, ⟨t₂, i₂, [], 0⟩] scope pos) 1 it acc env = (standAt i₂.pos >>= fun _ => pyNext it >>= fun r => match r with
      | none => pure (.done .next)
      | some v => letOwnedTupleGo t₂ it v >>= fun _ => assign t₂ env v >>= fun _ =>
        (eval elt env >>= fun x => call (.builtin "list.append") [acc, x] >>= fun _ => pure ()) >>= fun _ =>
          again (.compLoop (.ListComp elt [⟨t₁, i₁, [], 0⟩, ⟨t₂, i₂, [], 0⟩] scope pos) 1 it acc env)) := by rfl
def inner2 (elt t₁ i₁ t₂ i₂ : Expr) (scope : Scope) (pos : Pos) (acc : Value) (env : Env) : Sem Unit :=
  eval i₂ env >>= fun x => standAt i₂.pos >>= fun _ => foldedSetIterable i₂ env x >>= fun x => holding [x] (pyIter x) >>= fun it =>
    runOwn (.compStart (.ListComp elt [⟨t₁, i₁, [], 0⟩, ⟨t₂, i₂, [], 0⟩] scope pos) 1 it acc env) env >>= fun _ => pure ()
theorem turn2a (elt t₁ i₁ t₂ i₂ : Expr) (scope : Scope) (pos : Pos) (it acc : Value) (env : Env) :
    compTurn (.ListComp elt [⟨t₁, i₁, [], 0⟩, ⟨t₂, i₂, [], 0⟩] scope pos) 0 it acc env = (standAt i₁.pos >>= fun _ => pyNext it >>= fun r => match r with
      | none => pure (.done .next)
      | some v => letOwnedTupleGo t₁ it v >>= fun _ => assign t₁ env v >>= fun _ =>
        inner2 elt t₁ i₁ t₂ i₂ scope pos acc env >>= fun _ =>
          again (.compLoop (.ListComp elt [⟨t₁, i₁, [], 0⟩, ⟨t₂, i₂, [], 0⟩] scope pos) 0 it acc env)) := by
  have h : compTurn (.ListComp elt [⟨t₁, i₁, [], 0⟩, ⟨t₂, i₂, [], 0⟩] scope pos) 0 it acc env = (standAt i₁.pos >>= fun _ => pyNext it >>= fun r => match r with
      | none => pure (.done .next)
      | some v => letOwnedTupleGo t₁ it v >>= fun _ => assign t₁ env v >>= fun _ =>
        eval i₂ env >>= fun x => standAt i₂.pos >>= fun _ => foldedSetIterable i₂ env x >>= fun x => holding [x] (pyIter x) >>= fun it' =>
    runOwn (.compStart (.ListComp elt [⟨t₁, i₁, [], 0⟩, ⟨t₂, i₂, [], 0⟩] scope pos) 1 it' acc env) env >>= fun _ => 
          again (.compLoop (.ListComp elt [⟨t₁, i₁, [], 0⟩, ⟨t₂, i₂, [], 0⟩] scope pos) 0 it acc env)) := by rfl
  rw [h]
  congr 1; funext _; congr 1; funext r
  cases r with
  | none => rfl
  | some v => simp only [inner2, bind_assoc, pure_bind]

theorem codeAny_compStart1 {elt t₁ i₁ t₂ i₂ : Expr} {scope : Scope} {pos : Pos} {it acc : Value} {env : Env} {R : Result → Shared → Prop}
    (h0 : codeAny (model prog w) A (.compLoop (.ListComp elt [⟨t₁, i₁, [], 0⟩, ⟨t₂, i₂, [], 0⟩] scope pos) 1 it acc env) R s)
    (h : wpAny (model prog w) A (pyIter it) (fun it' s' => codeAny (model prog w) A (.compLoop (.ListComp elt [⟨t₁, i₁, [], 0⟩, ⟨t₂, i₂, [], 0⟩] scope pos) 1 it' acc env) R s')
      (notedBy (model prog w) A env fun x s' => R (.error x) s') s) :
    codeAny (model prog w) A (.compStart (.ListComp elt [⟨t₁, i₁, [], 0⟩, ⟨t₂, i₂, [], 0⟩] scope pos) 1 it acc env) R s := by
  refine codeAny_of_tree ?_
  show wpAny _ _ ((compStart (.ListComp elt [⟨t₁, i₁, [], 0⟩, ⟨t₂, i₂, [], 0⟩] scope pos) 1 it acc env).onRaise (fun x => do noteFrame x env; standAt theWindowsPlace)) _ _ s
  refine wpAny_notedAt ?_
  unfold compStart
  show wpAny _ _ (ask >>= _) _ _ s
  refine wpAny_bind (wpAny_askSetting (wpAny_ite ?_))
  split
  · first
      | exact wpAny_bind (wpAny_pure (wpAny_pure (And.intro rfl h0)))
      | exact wpAny_pure (And.intro rfl h0)
  · first
      | exact wpAny_bind (wpAny_rule (wpAny_bind (wpAny_standAt (wpAny_bind (wpAny_mono h (fun it' s' h' => wpAny_pure (And.intro rfl h')) fun _ _ x => x)))))
      | (refine wpAny_bind (wpAny_rule ?_); show wpAny _ _ (standAt i₂.pos >>= _) _ _ s; exact wpAny_bind (wpAny_standAt (wpAny_bind (wpAny_mono h (fun it' s' h' => wpAny_pure (And.intro rfl h')) fun _ _ x => x))))
end
end
section
open PySem PySem.W PySem.Calls PyProof.Rows PySem.SeqAt
theorem nameD_of {d : D} {K : D → Prop} (h : K d) : nameD d K := by
  cases d <;> first | exact h | (intro j e; subst e; exact h)

section
variable {c : Cx} {n k : Nat} {A : Around} {E : Value → Shared → Prop} {h₀ : Heap} {env : Env}

theorem bindT_cases {ts : List Nat} {pr : Bool} {d : D} {ρ : Rho} {K : Rho → Prop} (h : bindT ts pr d ρ K) :
    (∃ i, ts = [i] ∧ pr = false ∧ K (put ρ i d)) ∨ (∃ i j x y, ts = [i, j] ∧ pr = true ∧ d = .tup [x, y] ∧ K (put (put ρ i x) j y)) := by
  unfold bindT at h
  split at h
  · exact .inl ⟨_, rfl, rfl, h⟩
  · exact .inr ⟨_, _, _, _, rfl, rfl, rfl, h⟩
  · exact h.elim

theorem local_relab {nm inner : Names} {x : Str} (h : inner.lookup x = some .local) : (relab nm inner).lookup x = some .local := by
  rw [lookup_relab, h]; rfl

theorem sBindT {nm inner : Names} {cenv : Env} {t : Expr} {ts : List Nat} {pr : Bool} {d : D} {ρ : Rho} {K : Rho → Prop} {u : Value} {s : Shared} (en : cenv.scope.names = relab nm inner) (ek : EnvOk cenv) (hh : A.handled = none)
    (hc : cTgt inner t = some (ts, pr)) (h : bindT ts pr d ρ K) (R : SR c h₀ cenv ρ s.heap) (r : Rep s.heap d u) :
    wpAny (model c.prog c.w) A (assign t cenv u) (fun _ s' => Sm s s' ∧ (∀ b o, b ≠ cenv.locals → s.heap.get? b = some o → s'.heap.get? b = some o) ∧ ∃ ρ', SR c h₀ cenv ρ' s'.heap ∧ K ρ') E s := by
  unfold cTgt at hc
  split at hc
  · rename_i x p
    split at hc
    · rename_i hcond
      simp only [Bool.and_eq_true, beq_iff_eq] at hcond
      obtain ⟨i, hi, e⟩ := Option.map_eq_some_iff.mp hc
      cases e
      rcases bindT_cases h with ⟨i', e1, _, hk⟩ | ⟨_, _, _, _, e1, _⟩
      · cases e1
        refine wpAny_mono (stores_assign (p := p) (by rw [en]; exact local_relab hcond.1) (by rw [en, nIdx_relab]; exact hi) h₀ ρ d u A E s ek R r) (fun _ s₁ hh => ?_) fun _ _ e => e
        obtain ⟨h', tk, rfl, sb, ks, R₂⟩ := hh
        exact ⟨⟨_, _, rfl⟩, fun b o n1 e => sb.extBut b o n1 e, _, R₂, hk⟩
      · cases e1
    · cases hc
  · rename_i x px y py kk tp
    split at hc
    · rename_i hcond
      simp only [Bool.and_eq_true, beq_iff_eq] at hcond
      obtain ⟨⟨⟨⟨c1, c2⟩, c3⟩, c4⟩, c5⟩ := hcond
      split at hc
      · rename_i i j hi hj
        cases hc
        rcases bindT_cases h with ⟨_, e1, _⟩ | ⟨i', j', a, b, e1, _, rfl, hk⟩
        · cases e1
        · cases e1
          have hn : cNames cenv.scope.names [.Name x px, .Name y py] = some [i, j] := by
            rw [en]
            simp only [cNames, local_relab c1, local_relab c2, nIdx_relab, c3, c4, hi, hj]
            rfl
          obtain ⟨l, vs, rfl, tl, rl⟩ := r
          obtain ⟨b1, b2, b3, b4⟩ := names_assign (c := c) (env := cenv) _ _ hn
          have l1 := Reps.length rl
          refine PySem.wpAny_assign_Tuple hh tl (by rw [b2]; simp [l1]) b3 fun h' he => ?_
          have ex : Ext s.heap h' := fun b o e => he b o (Nat.ne_of_lt (Heap.lt_size e)) e
          refine wpAny_mono (sOrder' (s := { s with heap := h' }) ek _ _ [a, b] _ ρ K b1 (R.ext ex) (rl.ext ex) (nameD_of (nameD_of hk))) (fun _ s₂ hh => ?_) fun _ _ e => e
          obtain ⟨sm, kb, ρ', R₂, hq⟩ := hh
          exact ⟨Sm.trans ⟨_, _, rfl⟩ sm, fun b o n1 e => kb b o n1 (ex b o e), ρ', R₂, hq⟩
      · cases hc
    · cases hc
  · cases hc
end
end
section
open PySem PySem.W PySem.Calls PyProof.Rows PySem.SeqAt
theorem flats_append : ∀ {a b : List D}, D.flats a = true → D.flats b = true → D.flats (a ++ b) = true
  | [], _, _, h => h
  | d :: r, b, h, h' => by
    simp only [D.flats, Bool.and_eq_true, List.cons_append] at h ⊢
    exact ⟨h.1, flats_append h.2 h'⟩
theorem flats_get : ∀ {a : List D} {i : Nat} {d : D}, D.flats a = true → a[i]? = some d → d.flat = true
  | [], _, _, _, h => by simp at h
  | d :: r, 0, d', h, h' => by simp only [D.flats, Bool.and_eq_true] at h; simp at h'; subst h'; exact h.1
  | d :: r, i + 1, d', h, h' => by simp only [D.flats, Bool.and_eq_true] at h; exact flats_get h.2 (by simpa using h')

theorem look_put_ne : ∀ {ρ : Rho} {i j : Nat} {d : D}, j ≠ i → look (put ρ i d) j = look ρ j
  | [], _, _, _, _ => rfl
  | x :: r, 0, 0, _, h => absurd rfl h
  | x :: r, 0, j + 1, _, _ => rfl
  | x :: r, i + 1, 0, _, _ => rfl
  | x :: r, i + 1, j + 1, _, h => look_put_ne (ρ := r) (by omega)
theorem look_put_self : ∀ {ρ : Rho} {i : Nat} {d : D}, i < ρ.length → look (put ρ i d) i = some d
  | [], _, _, h => by simp at h
  | x :: r, 0, _, _ => rfl
  | x :: r, i + 1, _, h => look_put_self (ρ := r) (by simpa using h)
theorem bindT_look {ts : List Nat} {pr : Bool} {d : D} {ρ : Rho} {K : Rho → Prop} (h : bindT ts pr d ρ K) : bindT ts pr d ρ fun ρ' => K ρ' ∧ ∀ i, i ∉ ts → look ρ' i = look ρ i := by
  rcases bindT_cases h with ⟨i, rfl, rfl, hk⟩ | ⟨i, j, x, y, rfl, rfl, rfl, hk⟩
  · exact ⟨hk, fun k hn => look_put_ne (by simpa using hn)⟩
  · refine ⟨hk, fun k hn => ?_⟩
    simp only [List.mem_cons, List.not_mem_nil, or_false, not_or] at hn
    rw [look_put_ne hn.2, look_put_ne hn.1]

abbrev Bnd := Option (Str × Nat × D)
def Fc (g : Heap) (C : Addr) (o : Bnd) (h : Heap) : Prop := Ext g h ∧ ∃ m, h.Ns C m ∧ ∀ x i d, o = some (x, i, d) → ∃ u, m x = some u ∧ Rep h d u
def rhoF (caps : List (Option Nat)) (ρ : Rho) : Bnd → Rho
  | none => capR caps ρ
  | some (_, i, d) => put (capR caps ρ) i d
def Acc (Dd : Addr) (zs : List D) (h : Heap) : Prop := ∃ ws, h.IsList Dd ws.toArray ∧ Reps h zs ws ∧ D.flats zs = true

abbrev cenvOf (sc : Scope) (env : Env) (C : Addr) : Env := compEnvC sc (clOf env.cells sc.names []) C env

structure CF (c : Cx) (n : Nat) (A : Around) (h₀ : Heap) (env : Env) (ρ : Rho) (sc : Scope) (g : Heap) (C Dd : Addr) : Prop where
  R : SR c h₀ env ρ g
  ek : EnvOk env
  ok : Ok n A
  so : scopeOk sc = true
  fo : freeOk env.scope.names sc.names = true
  fC : g.objs.size ≤ C
  fD : g.objs.size ≤ Dd
  ne : C ≠ Dd
def BOk (sc : Scope) (o : Bnd) : Prop := ∀ x i d, o = some (x, i, d) → nIdx sc.names x = some i ∧ sc.names.lookup x = some .local ∧ d.flat = true

section
variable {c : Cx} {n k : Nat} {A : Around} {E : Value → Shared → Prop} {h₀ : Heap} {env : Env} {ρ : Rho} {sc : Scope} {g : Heap} {C Dd : Addr} {o : Bnd}

theorem ns_inj {h : Heap} {L : Addr} {m m' : Str → Option Value} (x : h.Ns L m) (y : h.Ns L m') : m = m' := by
  obtain ⟨o, es, ep, ho, hd, _, hf⟩ := x
  obtain ⟨o', es', ep', ho', hd', _, hf'⟩ := y
  rw [ho] at ho'; cases ho'
  rw [hd] at hd'; cases hd'
  funext n; rw [← hf, ← hf']

theorem CF.sr (F : CF c n A h₀ env ρ sc g C Dd) (ho : BOk sc o) {h : Heap} (x : Fc g C o h) : SR c h₀ (cenvOf sc env C) (rhoF (capsOf env.scope.names sc.names) ρ o) h := by
  obtain ⟨ex, m, hn, hm⟩ := x
  have S := mkSR F.R F.ek F.so F.fo ex hn F.fC
  cases o with
  | none => exact S
  | some y =>
    obtain ⟨x, i, d⟩ := y
    obtain ⟨h1, h2, _⟩ := ho x i d rfl
    obtain ⟨u, hu, ru⟩ := hm x i d rfl
    have en : (cenvOf sc env C).scope.names = relab env.scope.names sc.names := relabel_names F.ek
    have hl := local_relab (nm := env.scope.names) h2
    have hi : nIdx (cenvOf sc env C).scope.names x = some i := by rw [en, nIdx_relab]; exact h1
    refine ⟨S.w, S.keep, S.loc, ⟨m, hn, ?_⟩, ?_, S.cells, S.live, S.apart⟩
    · intro y j d' g1 g2 g3
      rcases look_put g2 with ⟨rfl, rfl⟩ | ⟨ne, g2⟩
      · have := nIdx_inj g1 hi; subst this
        exact ⟨u, hu, ru⟩
      · obtain ⟨m', hn', hm'⟩ := S.ns
        obtain ⟨v, e, r⟩ := hm' y j d' g1 g2 g3
        have := ns_inj hn hn'; subst this
        exact ⟨v, e, r⟩
    · intro y j d' g1 g2 g3
      rcases look_put g2 with ⟨rfl, rfl⟩ | ⟨ne, g2⟩
      · have := nIdx_inj g1 hi; subst this
        rw [en, hl] at g3; rcases g3 with g3 | g3 <;> cases g3
      · exact S.cell y j d' g1 g2 g3

theorem Fc.of (F : CF c n A h₀ env ρ sc g C Dd) (ho : BOk sc o) {h : Heap} {ρ' : Rho} (ex : Ext g h) (S : SR c h₀ (cenvOf sc env C) ρ' h) (hl : ∀ x i d, o = some (x, i, d) → look ρ' i = some d) : Fc g C o h := by
  obtain ⟨m, hn, hm⟩ := S.ns
  refine ⟨ex, m, hn, fun x i d e => ?_⟩
  obtain ⟨h1, h2, _⟩ := ho x i d e
  have en : (cenvOf sc env C).scope.names = relab env.scope.names sc.names := relabel_names F.ek
  exact hm x i d (by rw [en, nIdx_relab]; exact h1) (hl x i d e) (by rw [en]; exact local_relab h2)

theorem tup_of {h h' : Heap} {P : Addr → Prop} (k : ∀ b o, ¬ P b → h.get? b = some o → h'.get? b = some o) (hp : ∀ b, P b → ∀ xs, ¬ h.IsTuple b xs) : ∀ a xs, h.IsTuple a xs → h'.IsTuple a xs := by
  rintro a xs ⟨o, ho, r⟩
  exact ⟨o, k a o (fun e => hp a e xs ⟨o, ho, r⟩) ho, r⟩
theorem not_tup_list {h : Heap} {a : Addr} {xs ys : Array Value} (x : h.IsList a xs) : ¬ h.IsTuple a ys := by
  rintro ⟨o, ho, hc, _⟩
  obtain ⟨o', ho', hc', _⟩ := x
  rw [ho] at ho'; cases ho'
  rw [hc] at hc'; exact absurd hc' (by simp)
theorem not_tup_ns {h : Heap} {a : Addr} {m : Str → Option Value} {ys : Array Value} (x : h.Ns a m) : ¬ h.IsTuple a ys := by
  rintro ⟨o, ho, hc, _, hd⟩
  obtain ⟨o', es, ep, ho', hd', _⟩ := x
  rw [ho] at ho'; cases ho'
  rw [hd] at hd'; cases hd'
theorem not_tup_it {h : Heap} {a : Addr} {o : Obj} {fs : Array Value} {ys : Array Value} (ho : h.get? a = some o) (hd : o.data = .fields fs) : ¬ h.IsTuple a ys := by
  rintro ⟨o', ho', hc, _, hd'⟩
  rw [ho] at ho'; cases ho'
  rw [hd] at hd'; cases hd'

theorem Acc.move {zs : List D} {h h' : Heap} (x : Acc Dd zs h) (hd : ∀ xs, h.IsList Dd xs → h'.IsList Dd xs) (ht : ∀ a xs, h.IsTuple a xs → h'.IsTuple a xs) : Acc Dd zs h' := by
  obtain ⟨ws, hl, r, f⟩ := x
  exact ⟨ws, hd _ hl, Reps.keepT ht _ _ f r, f⟩

/-- what a turn's body does -/
def BodyOk (c : Cx) (A : Around) (h₀ : Heap) (env : Env) (sc : Scope) (g : Heap) (C Dd : Addr) (o : Bnd) (P : Rho → Prop) (wt : Nat) (body : Sem Unit) (fb : Rho → (List D → Prop) → Prop) : Prop :=
  ∀ (ρ' : Rho) (zs : List D) (K : List D → Prop) (E : Value → Shared → Prop) (s : Shared), Ext g s.heap → SR c h₀ (cenvOf sc env C) ρ' s.heap → (∀ x i d, o = some (x, i, d) → look ρ' i = some d) →
    Acc Dd zs s.heap → zs.length + wt ≤ 100000 → P ρ' → fb ρ' K →
    wpAny (model c.prog c.w) A body (fun _ s' => Sm s s' ∧ (∀ b ob, b ≠ C → b ≠ Dd → s.heap.get? b = some ob → s'.heap.get? b = some ob) ∧ Fc g C o s'.heap ∧
      ∃ ys, ys.length ≤ wt ∧ K ys ∧ Acc Dd (zs ++ ys) s'.heap) E s

theorem fresh_ne {a : Addr} (ha : g.objs.size ≤ a) {b : Addr} {ob : Obj} (e : g.get? b = some ob) : b ≠ a := by
  rintro rfl
  exact absurd (Heap.lt_size e) (Nat.not_lt.mpr ha)

theorem bindT_true {ts : List Nat} {pr : Bool} {d : D} {ρ : Rho} {K : Rho → Prop} (h : bindT ts pr d ρ K) : bindT ts pr d ρ fun ρ' => K ρ' ∧ True := by
  rcases bindT_cases h with ⟨i, rfl, rfl, hk⟩ | ⟨i, j, x, y, rfl, rfl, rfl, hk⟩
  · exact ⟨hk, trivial⟩
  · exact ⟨hk, trivial⟩

theorem loopG (F : CF c n A h₀ env ρ sc g C Dd) (ho : BOk sc o) {elt : Expr} {gens : List Comprehension} {dep : Nat} {p : Pos} {t : Expr} {pos : Pos} {I : Addr} {body : Sem Unit} {wt : Nat} {fb : Rho → (List D → Prop) → Prop}
    (ht : compTurn (.ListComp elt gens sc pos) dep (.ref I) (.ref Dd) (cenvOf sc env C) = (standAt p >>= fun _ => pyNext (.ref I) >>= fun r => match r with
      | none => pure (.done .next)
      | some v => letOwnedTupleGo t (.ref I) v >>= fun _ => assign t (cenvOf sc env C) v >>= fun _ => body >>= fun _ => again (.compLoop (.ListComp elt gens sc pos) dep (.ref I) (.ref Dd) (cenvOf sc env C))))
    {P : Rho → Prop} (hb : BodyOk c A h₀ env sc g C Dd o P wt body fb) {ts : List Nat} {pr : Bool} (hc : cTgt sc.names t = some (ts, pr)) (hts : ∀ x i d, o = some (x, i, d) → i ∉ ts)
    {ds : List D} {v : Value} (hP : ∀ d ∈ ds, ∀ K, bindT ts pr d (rhoF (capsOf env.scope.names sc.names) ρ o) K → bindT ts pr d (rhoF (capsOf env.scope.names sc.names) ρ o) fun ρ' => K ρ' ∧ P ρ') {zs₀ : List D} (hN : zs₀.length + wt * ds.length ≤ 100000) {Qf : List D → Prop}
    (hp : pBind ds (fun d K => bindT ts pr d (rhoF (capsOf env.scope.names sc.names) ρ o) fun ρ' => fb ρ' K) Qf) {s : Shared}
    (hF : Fc g C o s.heap) (hI : It g s.heap I v ds 0) (hA : Acc Dd zs₀ s.heap) (fI : g.objs.size ≤ I) (nC : I ≠ C) (nD : I ≠ Dd) {R : Result → Shared → Prop}
    (hR : ∀ s' ys, Sm s s' → (∀ b ob, b ≠ I → b ≠ C → b ≠ Dd → s.heap.get? b = some ob → s'.heap.get? b = some ob) → Fc g C o s'.heap → ys.length ≤ wt * ds.length → Qf ys → Acc Dd (zs₀ ++ ys) s'.heap → R (.ok .next) s') :
    codeAny (model c.prog c.w) A (.compLoop (.ListComp elt gens sc pos) dep (.ref I) (.ref Dd) (cenvOf sc env C)) R s := by
  have en : (cenvOf sc env C).scope.names = relab env.scope.names sc.names := relabel_names F.ek
  have eke : EnvOk (cenvOf sc env C) := compEnvOk F.ek F.so
  have hlook : ∀ x i d, o = some (x, i, d) → look (rhoF (capsOf env.scope.names sc.names) ρ o) i = some d := by
    rintro x i d rfl
    refine look_put_self ?_
    have := (ho x i d rfl).1
    unfold nIdx at this
    rw [List.findIdx?_eq_some_iff_getElem] at this
    obtain ⟨hi, _⟩ := this
    simpa [capR, capsOf] using hi
  refine codeAny_loopB ht (fun m s' => ∃ (j : Nat) (ys : List D) (Qr : List D → Prop), m + j = ds.length + 1 ∧ j ≤ ds.length ∧ Sm s s' ∧ (∀ b ob, b ≠ I → b ≠ C → b ≠ Dd → s.heap.get? b = some ob → s'.heap.get? b = some ob) ∧ Fc g C o s'.heap ∧
      It g s'.heap I v ds j ∧ Acc Dd (zs₀ ++ ys) s'.heap ∧ ys.length ≤ wt * j ∧
      pBind (ds.drop j) (fun d K => bindT ts pr d (rhoF (capsOf env.scope.names sc.names) ρ o) fun ρ' => fb ρ' K) Qr ∧ (∀ xs, Qr xs → Qf (ys ++ xs))) ?_ (ds.length + 1)
    ⟨0, [], Qf, rfl, Nat.zero_le _, Sm.refl s, fun _ _ _ _ _ e => e, hF, hI, by simpa using hA, by simp, by simpa using hp, fun _ h => h⟩
  rintro m s' ⟨j, ys, Qr, hm, hj, sm, kb, hF', hI', hA', hys, hp', hQ⟩
  obtain ⟨oI, fs, hoI, _, hdI⟩ := hI'.obj
  have exg := hF'.1
  by_cases hlt : j < ds.length
  · have hd : ds[j]? = some ds[j] := List.getElem?_eq_getElem hlt
    rw [show ds.drop j = ds[j] :: ds.drop (j + 1) by rw [List.drop_eq_getElem_cons hlt]] at hp'
    refine sNext hI' exg hd fun u h₂ ru sb hI₂ => ?_
    have ex₂ : Ext g h₂ := fun b ob e => sb.extBut b ob (fresh_ne fI e) (exg b ob e)
    have tk₂ : ∀ a xs, s'.heap.IsTuple a xs → h₂.IsTuple a xs := tup_of (P := (· = I)) (fun b ob nb e => sb.extBut b ob nb e) (fun b hb xs => by subst hb; exact not_tup_it hoI hdI)
    have hF₂ : Fc g C o h₂ := by
      obtain ⟨_, mm, hn, hmm⟩ := hF'
      refine ⟨ex₂, mm, hn.sameBut sb (Ne.symm nC), fun x i d e => ?_⟩
      obtain ⟨w, hw, rw'⟩ := hmm x i d e
      exact ⟨w, hw, Rep.keepT tk₂ _ _ (ho x i d e).2.2 rw'⟩
    have hA₂ : Acc Dd (zs₀ ++ ys) h₂ := hA'.move (fun xs ⟨ob, h1, r⟩ => ⟨ob, sb.extBut _ ob (Ne.symm nD) h1, r⟩) tk₂
    dsimp only
    refine sOwned (s := { s' with heap := h₂ }) hI₂ ?_
    have hp1 : bindT ts pr ds[j] (rhoF (capsOf env.scope.names sc.names) ρ o) fun ρ' => fb ρ' (fun ys => pBind (ds.drop (j + 1)) (fun d K => bindT ts pr d (rhoF (capsOf env.scope.names sc.names) ρ o) fun ρ' => fb ρ' K) fun zs => Qr (ys ++ zs)) := hp'
    refine wpAny_mono (sBindT (s := { s' with heap := h₂ }) en eke F.ok.hd hc (bindT_look (hP _ (List.getElem_mem hlt) _ hp1)) (F.sr ho hF₂) (ru.ext ex₂)) (fun _ s₃ h₃ => ?_) fun _ _ e => e
    obtain ⟨sm₃, kb₃, ρ', R₃, ⟨hfb, hPr⟩, hlk⟩ := h₃
    have ex₃ : Ext g s₃.heap := fun b ob e => kb₃ b ob (fresh_ne F.fC e) (ex₂ b ob e)
    have tk₃ : ∀ a xs, h₂.IsTuple a xs → s₃.heap.IsTuple a xs := tup_of (P := (· = C)) (fun b ob nb e => kb₃ b ob nb e) (fun b hb xs => by subst hb; exact not_tup_ns hF₂.2.choose_spec.1)
    have hA₃ : Acc Dd (zs₀ ++ ys) s₃.heap := hA₂.move (fun xs ⟨ob, h1, r⟩ => ⟨ob, kb₃ _ ob (Ne.symm F.ne) h1, r⟩) tk₃
    have hN' : wt * j + wt ≤ wt * ds.length := by rw [← Nat.mul_succ]; exact Nat.mul_le_mul_left _ hlt
    refine wpAny_mono (hb ρ' (zs₀ ++ ys) _ _ s₃ ex₃ R₃ (fun x i d e => by rw [hlk i (hts x i d e)]; exact hlook x i d e) hA₃ (by rw [List.length_append]; omega) hPr hfb) (fun _ s₄ h₄ => ?_) fun _ _ e => e
    obtain ⟨sm₄, kb₄, hF₄, xs, hxs, hk, hA₄⟩ := h₄
    have kI : ∀ ob, h₂.get? I = some ob → s₄.heap.get? I = some ob := fun ob e => kb₄ I ob nC nD (kb₃ I ob nC e)
    refine ⟨m - 1, by omega, j + 1, ys ++ xs, _, by omega, hlt, sm.trans (Sm.trans ⟨_, _, rfl⟩ (sm₃.trans sm₄)), fun b ob n1 n2 n3 e => kb₄ b ob n2 n3 (kb₃ b ob n2 (sb.extBut b ob n1 (kb b ob n1 n2 n3 e))), hF₄, hI₂.at kI,
      by rw [← List.append_assoc]; exact hA₄, by rw [List.length_append, Nat.mul_succ]; omega, hk, fun zs hz => by rw [List.append_assoc]; exact hQ _ hz⟩
  · have hj' : j = ds.length := by omega
    rw [show ds.drop j = [] by rw [hj']; exact List.drop_length] at hp'
    refine sEnd hI' exg F.ok.hd hj' fun h₂ sb => ?_
    have ex₂ : Ext g h₂ := fun b ob e => sb b ob (fresh_ne fI e) (exg b ob e)
    have tk₂ : ∀ a xs, s'.heap.IsTuple a xs → h₂.IsTuple a xs := tup_of (P := (· = I)) (fun b ob nb e => sb b ob nb e) (fun b hb xs => by subst hb; exact not_tup_it hoI hdI)
    have hF₂ : Fc g C o h₂ := by
      obtain ⟨_, mm, ⟨oc, es, ep, hoc, rc⟩, hmm⟩ := hF'
      refine ⟨ex₂, mm, ⟨oc, es, ep, sb _ _ (Ne.symm nC) hoc, rc⟩, fun x i d e => ?_⟩
      obtain ⟨w, hw, rw'⟩ := hmm x i d e
      exact ⟨w, hw, Rep.keepT tk₂ _ _ (ho x i d e).2.2 rw'⟩
    have hA₂ : Acc Dd (zs₀ ++ ys) h₂ := hA'.move (fun xs ⟨ob, h1, r⟩ => ⟨ob, sb _ ob (Ne.symm nD) h1, r⟩) tk₂
    have hq := hQ [] hp'
    rw [List.append_nil] at hq
    exact hR { s' with heap := h₂ } ys (sm.trans ⟨_, _, rfl⟩) (fun b ob n1 n2 n3 e => sb b ob n1 (kb b ob n1 n2 n3 e)) hF₂ (by rw [hj'] at hys; exact hys) hq hA₂

/-- the body that appends one element -/
theorem bodyEmit (hE : SE c n k) (F : CF c n A h₀ env ρ sc g C Dd) (ho : BOk sc o) {elt : Expr} :
    BodyOk c A h₀ env sc g C Dd o (fun _ => True) 1 (eval elt (cenvOf sc env C) >>= fun x => call (.builtin "list.append") [.ref Dd, x] >>= fun _ => pure ())
      (fun ρ' K => qE c n (cE k (relab env.scope.names sc.names) elt) ρ' fun y => y.flat = true ∧ K [y]) := by
  intro ρ' zs K E s ex S hlk hA hN _ h
  have en : (cenvOf sc env C).scope.names = relab env.scope.names sc.names := relabel_names F.ek
  obtain ⟨ws, hl, rs, fs⟩ := hA
  have hws := Reps.length rs
  refine wpAny_bind (thenE (hE elt (cenvOf sc env C) ρ' _ A E s h₀ (compEnvOk F.ek F.so) S F.ok (by rw [en]; exact h)) fun y s₁ dy ry q ch => ?_)
  have hl₁ := isList_ext ch.ext hl
  refine wpAny_bind (wpAny_list_append hl₁ (fun h' hl' hs => wpAny_pure ?_) (small_fits (by simp; omega)))
  have tk : ∀ a xs, s₁.heap.IsTuple a xs → h'.IsTuple a xs := tup_of (P := (· = Dd)) (fun b ob nb e => hs.extBut b ob nb e) (fun b hb xs => by subst hb; exact not_tup_list hl₁)
  have ex' : Ext g h' := fun b ob e => hs.extBut b ob (fresh_ne F.fD e) (ch.ext b ob (ex b ob e))
  have hF := Fc.of F ho (h := s₁.heap) (fun b ob e => ch.ext b ob (ex b ob e)) (S.ext ch.ext) hlk
  refine ⟨ch.sm.trans ⟨_, s₁.toks, rfl⟩, fun b ob n1 n2 e => hs.extBut b ob n2 (ch.ext b ob e), ?_, [y].map (fun _ => dy), by simp, q.2, ws ++ [y], ?_, ?_, ?_⟩
  · obtain ⟨_, mm, hn, hmm⟩ := hF
    refine ⟨ex', mm, hn.sameBut hs F.ne, fun x i d e => ?_⟩
    obtain ⟨w, hw, rw'⟩ := hmm x i d e
    exact ⟨w, hw, Rep.keepT tk _ _ (ho x i d e).2.2 rw'⟩
  · have e : ws.toArray.push y = (ws ++ [y]).toArray := by simp
    rw [← e]; exact hl'
  · exact Reps.append (Reps.keepT tk _ _ fs (rs.ext ch.ext)) ⟨y, [], rfl, Rep.keepT tk _ _ q.1 ry, rfl⟩
  · exact flats_append fs (by simp [D.flats, q.1])
end
end
section
open PySem PySem.W PySem.Calls PyProof.Rows PySem.SeqAt
theorem flats_mem : ∀ {l : List D} {d : D}, D.flats l = true → d ∈ l → d.flat = true
  | [], _, _, h => by cases h
  | x :: r, d, h, h' => by
    simp only [D.flats, Bool.and_eq_true] at h
    cases h' with
    | head => exact h.1
    | tail _ h' => exact flats_mem h.2 h'
section
variable {c : Cx} {n k : Nat} {A : Around} {E : Value → Shared → Prop} {h₀ : Heap} {env : Env} {ρ : Rho}

theorem compSetup (ek : EnvOk env) (ok : Ok n A) {sc : Scope} (so : scopeOk sc = true) (fo : freeOk env.scope.names sc.names = true) {elt t it : Expr} {rest : List Comprehension} {pos : Pos}
    {s : Shared} (R : SR c h₀ env ρ s.heap) {d : D} {ds : List D} {v : Value} (rd : Rep s.heap d v) (hi : dItems d = some ds) {RR : Value → Addr → Result → Shared → Prop}
    (h : ∀ (I C Dd : Addr) (s₁ : Shared), CF c n A h₀ env ρ sc s.heap C Dd → Sm s s₁ → Fc s.heap C none s₁.heap → It s.heap s₁.heap I v ds 0 → Acc Dd [] s₁.heap → s.heap.objs.size ≤ I → I ≠ C → I ≠ Dd →
      codeAny (model c.prog c.w) A (.compLoop (.ListComp elt (⟨t, it, [], 0⟩ :: rest) sc pos) 0 (.ref I) (.ref Dd) (cenvOf sc env C)) (RR (.ref Dd) C) s₁) :
    wpAny (model c.prog c.w) A (pyIter v) (fun itv s₂ => wpAny (model c.prog c.w) A (newList []) (fun acc s₃ => wpAny (model c.prog c.w) A (newFunctionEnv sc env.globals (clOf env.cells sc.names []) [] env.qual none .none (some env)) (fun cenv s₄ =>
      codeAny (model c.prog c.w) A (.compStart (.ListComp elt (⟨t, it, [], 0⟩ :: rest) sc pos) 0 itv acc { cenv with scope := relabel sc env }) (RR acc cenv.locals) s₄) E s₃) E s₂) E s := by
  obtain ⟨s1, s2, s3, s4⟩ := scopeOk_parts so
  refine sIter rd hi fun H1 x1 it1 z1 => ?_
  generalize hI : s.heap.objs.size = I at it1 z1 ⊢
  refine wpAny_newObj_type (hd := by size_fits) (wpAny_newFunctionEnv s2 (by intro y hy; simp at hy) (fun h₁ hns₁ hsb₁ => ?_) s1)
  dsimp only at hns₁ hsb₁ ⊢
  have hDsz : H1.objs.size = I + 1 := z1
  generalize hDd : H1.objs.size = Dd at hDsz hns₁ hsb₁ ⊢
  generalize hH2 : H1.push { cls := .type "list", dict := none, data := .seq ([] : List Value).toArray } = H2 at hns₁ hsb₁ ⊢
  have hCsz : H2.objs.size = I + 2 := by rw [← hH2, Heap.size_push, hDd, hDsz]
  generalize hC : H2.objs.size = C at hCsz hns₁ hsb₁ ⊢
  have ex2 : Ext H1 H2 := hH2 ▸ Ext.push _ _
  have lt : ∀ b o, s.heap.get? b = some o → b < I := fun b o e => hI ▸ Heap.lt_size e
  have ltN : ∀ b o, s.heap.get? b = some o → b ≠ I ∧ b ≠ Dd ∧ b ≠ C := fun b o e => by
    have := lt b o e
    rw [hDsz, hCsz]
    exact ⟨Nat.ne_of_lt this, Nat.ne_of_lt (Nat.lt_succ_of_lt this), Nat.ne_of_lt (Nat.lt_succ_of_lt (Nat.lt_succ_of_lt this))⟩
  have old : Ext s.heap h₁ := fun b o e => hsb₁.extBut b o (ltN b o e).2.2 (Heap.get?_push_of_some _ (ex2 b o (x1 b o e)))
  have nID : I ≠ Dd := by rw [hDsz]; exact (Nat.succ_ne_self _).symm
  have nIC : I ≠ C := by rw [hCsz]; exact Nat.ne_of_lt (Nat.lt_succ_of_lt (Nat.lt_succ_self _))
  have nDC : Dd ≠ C := by rw [hCsz, hDsz]; exact Nat.ne_of_lt (Nat.lt_succ_self _)
  have it2 : It s.heap h₁ I v ds 0 := it1.at fun o e => hsb₁.extBut I o nIC (Heap.get?_push_of_some _ (ex2 I o e))
  have gD : H2.get? Dd = some { cls := .type "list", dict := none, data := .seq ([] : List Value).toArray } := by rw [← hH2, ← hDd]; exact Heap.get?_push_size _ rfl
  have acc2 : h₁.IsList Dd ([] : List Value).toArray := ⟨_, hsb₁.extBut Dd _ nDC (Heap.get?_push_of_some _ gD), rfl, _, rfl⟩
  have lI : s.heap.objs.size ≤ I := Nat.le_of_eq hI
  have lD : s.heap.objs.size ≤ Dd := by rw [hI, hDsz]; exact Nat.le_succ _
  have lC : s.heap.objs.size ≤ C := by rw [hI, hCsz]; exact Nat.le_add_right _ _
  have F : CF c n A h₀ env ρ sc s.heap C Dd := ⟨R, ek, ok, so, fo, lC, lD, Ne.symm nDC⟩
  have go := h I C Dd { s with heap := h₁ } F ⟨_, s.toks, rfl⟩ ⟨old, _, hns₁, fun x i d e => by cases e⟩ it2 ⟨[], acc2, rfl, rfl⟩ lI nIC nID
  exact codeAny_compStart_list go (sAgain it2 go)

/-- the loop's post, brought to what the comprehension asks -/
def CompIn (s : Shared) (Qf : List D → Prop) (RR : Value → Addr → Result → Shared → Prop) : Prop :=
  ∀ (Dd C : Addr) (s' : Shared) (zs : List D) (ws : List Value), s.heap.get? Dd = none → s.heap.get? C = none → C ≠ Dd → Sm s s' → Ext s.heap s'.heap → (∃ m, s'.heap.Ns C m) → s'.heap.IsList Dd ws.toArray → Reps s'.heap zs ws → D.flats zs = true →
      Qf zs → RR (.ref Dd) C (.ok .next) s'

theorem BOk.none {sc : Scope} : BOk sc none := fun _ _ _ e => by cases e

theorem compBlock1 (hE : SE c n k) (ek : EnvOk env) (ok : Ok n A) {sc : Scope} (so : scopeOk sc = true) (fo : freeOk env.scope.names sc.names = true) {elt t it : Expr} {pos : Pos} {ts : List Nat} {pr : Bool}
    (hc : cTgt sc.names t = some (ts, pr)) {s : Shared} (R : SR c h₀ env ρ s.heap) {d : D} {ds : List D} {v : Value} (rd : Rep s.heap d v) (hi : dItems d = some ds) (fl : D.flats ds = true) (hlen : ds.length ≤ 1000) {Qf : List D → Prop}
    (hp : pBind ds (fun d K => bindT ts pr d (capR (capsOf env.scope.names sc.names) ρ) fun ρ' => qE c n (cE k (relab env.scope.names sc.names) elt) ρ' fun y => y.flat = true ∧ K [y]) Qf)
    {RR : Value → Addr → Result → Shared → Prop} (hRR : CompIn s Qf RR) :
    wpAny (model c.prog c.w) A (pyIter v) (fun itv s₂ => wpAny (model c.prog c.w) A (newList []) (fun acc s₃ => wpAny (model c.prog c.w) A (newFunctionEnv sc env.globals (clOf env.cells sc.names []) [] env.qual none .none (some env)) (fun cenv s₄ =>
      codeAny (model c.prog c.w) A (.compStart (.ListComp elt [⟨t, it, [], 0⟩] sc pos) 0 itv acc { cenv with scope := relabel sc env }) (RR acc cenv.locals) s₄) E s₃) E s₂) E s := by
  refine compSetup ek ok so fo R rd hi fun I C Dd s₁ F sm hF hI hA lI nC nD => ?_
  refine loopG F BOk.none (turn1 elt t it sc pos _ _ _) (bodyEmit (k := k) hE F BOk.none) hc (fun _ _ _ e => by cases e) (fun _ _ _ => bindT_true) (by simp; omega) hp hF hI hA lI nC nD ?_
  intro s' ys sm' kb hF' _ hq hA'
  obtain ⟨ws, hl, rs, fs⟩ := hA'
  exact hRR Dd C s' ys ws (fresh_of F.fD) (fresh_of F.fC) F.ne (sm.trans sm') hF'.1 ⟨_, hF'.2.choose_spec.1⟩ hl rs fs hq

/-- a name that a comprehension takes from around -/
theorem sCap {sc : Scope} {g : Heap} {C Dd : Addr} (F : CF c n A h₀ env ρ sc g C Dd) {x : Str} {pos : Pos} {i : Nat} {d : D} {s : Shared} (hx : sc.names.lookup x = some .free) (hp : plainName x = true) (hi : nIdx sc.names x = some i)
    (hd : look (capR (capsOf env.scope.names sc.names) ρ) i = some d) (ex : Ext g s.heap) {Q : Value → Shared → Prop} (h : ∀ v, Rep g d v → Q v s) :
    wpAny (model c.prog c.w) A (eval (.Name x pos) (cenvOf sc env C)) Q E s := by
  obtain ⟨p1, p2, p3⟩ := plainName_parts hp
  have fr := freeOk_parts F.fo
  obtain ⟨j, hj, hdj⟩ := look_cap hd
  obtain ⟨kk, g1, g2⟩ := nIdx_get hi
  unfold capsOf at hj
  rw [List.getElem?_map, g1] at hj
  rw [hx] at g2; cases g2
  simp only [Option.map_some, Option.some.injEq, beq_self_eq_true, if_true] at hj
  have hcl := fr _ (lookup_mem hx) rfl
  obtain ⟨a, v, ea, hc, r⟩ := F.R.cell x j d (cVar_parts hj).2.2 hdj (.inl hcl)
  have en : (cenvOf sc env C).scope.names = relab env.scope.names sc.names := relabel_names F.ek
  have hk : (cenvOf sc env C).scope.names.lookup x = some .cell := by
    rw [en, lookup_relab, hx, Option.map_some, hcl]; rfl
  exact wpAny_Name (wpAny_loadName_cell (compEnvOk F.ek F.so).k hk (clOf_has ea (fun _ _ e => by cases e) (.inr (lookup_mem hx))) (hc.keeps ex) (h v r)) p1

theorem compBlock2 (hE : SE c n k) (ek : EnvOk env) (ok : Ok n A) {sc : Scope} (so : scopeOk sc = true) (fo : freeOk env.scope.names sc.names = true) {elt it : Expr} {pos p₁ p₂ p₃ : Pos} {x y z : Str} {i j l : Nat}
    (hx : sc.names.lookup x = some .local) (hy : sc.names.lookup y = some .local) (px : plainName x = true) (py : plainName y = true) (xy : x ≠ y) (ix : nIdx sc.names x = some i) (iy : nIdx sc.names y = some j)
    (hz : sc.names.lookup z = some .free) (pz : plainName z = true) (iz : nIdx sc.names z = some l)
    {s : Shared} (R : SR c h₀ env ρ s.heap) {d : D} {ds : List D} {v : Value} (rd : Rep s.heap d v) (hi : dItems d = some ds) (fl : D.flats ds = true) (hlen : ds.length ≤ 100) {Qf : List D → Prop}
    (hp : pBind ds (fun d K => (match look (put (capR (capsOf env.scope.names sc.names) ρ) i d) l with
      | some x₂ => (match dItems x₂ with
          | some l₂ => D.flats l₂ = true ∧ l₂.length ≤ 100 ∧ pBind l₂ (fun d₂ K₂ => qE c n (cE k (relab env.scope.names sc.names) elt) (put (put (capR (capsOf env.scope.names sc.names) ρ) i d) j d₂) fun y => y.flat = true ∧ K₂ [y]) K
          | none => False)
      | none => False)) Qf)
    {RR : Value → Addr → Result → Shared → Prop} (hRR : CompIn s Qf RR) :
    wpAny (model c.prog c.w) A (pyIter v) (fun itv s₂ => wpAny (model c.prog c.w) A (newList []) (fun acc s₃ => wpAny (model c.prog c.w) A (newFunctionEnv sc env.globals (clOf env.cells sc.names []) [] env.qual none .none (some env)) (fun cenv s₄ =>
      codeAny (model c.prog c.w) A (.compStart (.ListComp elt [⟨.Name x p₁, it, [], 0⟩, ⟨.Name y p₂, .Name z p₃, [], 0⟩] sc pos) 0 itv acc { cenv with scope := relabel sc env }) (RR acc cenv.locals) s₄) E s₃) E s₂) E s := by
  have hc₁ : cTgt sc.names (.Name x p₁) = some ([i], false) := by simp [cTgt, hx, px, ix]
  have hc₂ : cTgt sc.names (.Name y p₂) = some ([j], false) := by simp [cTgt, hy, py, iy]
  have ij : j ≠ i := by rintro rfl; exact xy (nIdx_inj ix iy)
  have li : l ≠ i := by rintro rfl; have := nIdx_inj ix iz; subst this; rw [hx] at hz; cases hz
  refine compSetup ek ok so fo R rd hi fun I C Dd s₁ F sm hF hI hA lI nC nD => ?_
  have hb : BodyOk c A h₀ env sc s.heap C Dd none (fun ρ' => ∃ d, d.flat = true ∧ ρ' = put (capR (capsOf env.scope.names sc.names) ρ) i d) 100 (inner2 elt (.Name x p₁) it (.Name y p₂) (.Name z p₃) sc pos (.ref Dd) (cenvOf sc env C))
      (fun ρ' K => (match look ρ' l with
      | some x₂ => (match dItems x₂ with
          | some l₂ => D.flats l₂ = true ∧ l₂.length ≤ 100 ∧ pBind l₂ (fun d₂ K₂ => qE c n (cE k (relab env.scope.names sc.names) elt) (put ρ' j d₂) fun y => y.flat = true ∧ K₂ [y]) K
          | none => False)
      | none => False)) := by
    rintro ρ' zs K E' s₂ ex S _ hA₂ hN ⟨d, fd, rfl⟩ hm
    split at hm
    · rename_i x₂ hx₂
      split at hm
      · rename_i l₂ hl₂
        obtain ⟨f₂, n₂, hp₂⟩ := hm
        rw [look_put_ne li] at hx₂
        unfold inner2
        refine wpAny_bind (sCap F hz pz iz hx₂ ex fun v₂ r₂ => wpAny_bind (wpAny_standAt ?_))
        refine wpAny_bind (wpAny_of_eq (a := v₂) rfl (wpAny_bind (wpAny_holding ?_)))
        refine sIter (r₂.ext ex) hl₂ fun H1 x1 it1 z1 => ?_
        refine wpAny_bind (wpAny_runOwn ?_)
        rw [Around.mark_none]
        have it1' : It s.heap H1 s₂.heap.objs.size v₂ l₂ 0 := by
          rcases it1 with ⟨q, vs, rfl, a, b, hit⟩ | ⟨q, vs, rfl, a, b, hit⟩
          · obtain ⟨q', vs', e', t', rs'⟩ : ∃ q' vs', Value.ref q = .ref q' ∧ s.heap.IsList q' vs'.toArray ∧ Reps s.heap l₂ vs' := by
              cases x₂ <;> simp [dItems] at hl₂
              · subst hl₂
                obtain ⟨q', vs', e', t', rs'⟩ := r₂
                cases e'
                exact absurd (isTuple_ext ex t') (not_tup_list a)
              · subst hl₂; exact r₂
            cases e'
            exact .inl ⟨q, vs', rfl, t', rs', hit⟩
          · obtain ⟨q', vs', e', t', rs'⟩ : ∃ q' vs', Value.ref q = .ref q' ∧ s.heap.IsTuple q' vs'.toArray ∧ Reps s.heap l₂ vs' := by
              cases x₂ <;> simp [dItems] at hl₂
              · subst hl₂; exact r₂
              · subst hl₂
                obtain ⟨q', vs', e', t', rs'⟩ := r₂
                cases e'
                exact absurd a (not_tup_list (isList_ext ex t'))
            cases e'
            exact .inr ⟨q, vs', rfl, t', rs', hit⟩
        have ho : BOk sc (some (x, i, d)) := fun x' i' d' e => by cases e; exact ⟨ix, hx, fd⟩
        have lk : look (put (capR (capsOf env.scope.names sc.names) ρ) i d) i = some d := by
          refine look_put_self ?_
          have := ix
          unfold nIdx at this
          rw [List.findIdx?_eq_some_iff_getElem] at this
          obtain ⟨hi', _⟩ := this
          simpa [capR, capsOf] using hi'
        have hF₂ : Fc s.heap C (some (x, i, d)) H1 := Fc.of F ho (fun b o e => x1 b o (ex b o e)) (S.ext x1) (fun x' i' d' e => by cases e; exact lk)
        have hA₃ : Acc Dd zs H1 := hA₂.move (fun xs => isList_ext x1) (fun a xs => isTuple_ext x1)
        have szs : s.heap.objs.size ≤ s₂.heap.objs.size := by
          rcases Nat.lt_or_ge s₂.heap.objs.size s.heap.objs.size with h | h
          · exfalso
            obtain ⟨ws, hl, _⟩ := hA₂
            obtain ⟨od, hod, _⟩ := hl
            exact absurd (Nat.lt_of_lt_of_le (Heap.lt_size hod) (Nat.le_of_lt h)) (Nat.not_lt.mpr F.fD)
          · exact h
        have nC₂ : s₂.heap.objs.size ≠ C := by
          rintro e
          obtain ⟨m, ⟨oc, _, _, hoc, _⟩, _⟩ := S.ns
          exact absurd (Heap.lt_size hoc) (by rw [e]; exact Nat.lt_irrefl _)
        have nD₂ : s₂.heap.objs.size ≠ Dd := by
          rintro e
          obtain ⟨ws, ⟨oc, hoc, _⟩, _⟩ := hA₂
          exact absurd (Heap.lt_size hoc) (by rw [e]; exact Nat.lt_irrefl _)
        have go : codeAny (model c.prog c.w) A (.compLoop (.ListComp elt [⟨.Name x p₁, it, [], 0⟩, ⟨.Name y p₂, .Name z p₃, [], 0⟩] sc pos) 1 (.ref s₂.heap.objs.size) (.ref Dd) (cenvOf sc env C)) (fun r s' => match r with
            | .ok f => wpAny (model c.prog c.w) A (pure ()) (fun _ s' => Sm s₂ s' ∧ (∀ b ob, b ≠ C → b ≠ Dd → s₂.heap.get? b = some ob → s'.heap.get? b = some ob) ∧ Fc s.heap C none s'.heap ∧ ∃ ys, ys.length ≤ 100 ∧ K ys ∧ Acc Dd (zs ++ ys) s'.heap) E' s'
            | .error e => cameBackBy (model c.prog c.w) A (cenvOf sc env C) E' e s') { s₂ with heap := H1 } := by
          refine loopG F ho (turn2b elt (.Name x p₁) it (.Name y p₂) (.Name z p₃) sc pos _ _ _) (bodyEmit (k := k) hE F ho) hc₂ (fun x' i' d' e => by cases e; simpa using Ne.symm ij) (fun _ _ _ => bindT_true) (by omega) hp₂ hF₂ it1' hA₃ szs nC₂ nD₂ ?_
          intro s' ys sm' kb hF' hys hq hA'
          refine wpAny_pure ⟨Sm.trans ⟨_, s₂.toks, rfl⟩ sm', fun b ob n1 n2 e => kb b ob (by rintro rfl; exact absurd (Heap.lt_size e) (Nat.lt_irrefl _)) n1 n2 (x1 b ob e), ⟨hF'.1, hF'.2.choose, hF'.2.choose_spec.1, fun _ _ _ e => by cases e⟩, ys, by omega, hq, hA'⟩
        exact codeAny_compStart1 go (sAgain it1' go)
      · exact hm.elim
    · exact hm.elim
  refine loopG F BOk.none (turn2a elt (.Name x p₁) it (.Name y p₂) (.Name z p₃) sc pos _ _ _) hb hc₁ (fun _ _ _ e => by cases e) (fun d' hd' K hk => ⟨hk, d', flats_mem fl hd', rfl⟩) (by simp; omega) hp hF hI hA lI nC nD ?_
  intro s' ys sm' kb hF' _ hq hA'
  obtain ⟨ws, hl, rs, fs⟩ := hA'
  exact hRR Dd C s' ys ws (fresh_of F.fD) (fresh_of F.fC) F.ne (sm.trans sm') hF'.1 ⟨_, hF'.2.choose_spec.1⟩ hl rs fs hq
end
end
section
open PySem PySem.W PySem.Calls PyProof.Rows PySem.SeqAt
section
variable {c : Cx} {n k : Nat} {A : Around} {E : Value → Shared → Prop} {h₀ : Heap} {env : Env} {ρ : Rho}

theorem clos (R : SR c h₀ env ρ h) (fo : freeOk env.scope.names sc.names = true) : closureFor sc env = pure (clOf env.cells sc.names []) :=
  closure_eq fun y hy e => by
    obtain ⟨a, ha, _⟩ := R.cells _ (freeOk_parts fo y hy e)
    exact ⟨a, ha⟩

theorem compGo (hE : SE c n k) {elt : Expr} {gens : List Comprehension} {sc : Scope} {pos : Pos} {Q : D → Prop} {s : Shared} {use : Option (Value → Sem Unit)} {Post : Value → Shared → Prop} (ek : EnvOk env) (ok : Ok n A) (R : SR c h₀ env ρ s.heap)
    (h : qE c n (cE (k + 1) env.scope.names (.ListComp elt gens sc pos)) ρ Q)
    (hRR : ∀ s₁, Chg s s₁ → CompIn s₁ (fun ys => Q (.list ys)) (compPost (model c.prog c.w) A E use Post)) :
    wpAny (model c.prog c.w) A (comprehension (.ListComp elt gens sc pos) sc env (firstIterPos gens pos) (newList []) (firstAsync gens) (firstIter gens env) use) Post E s := by
  unfold cE at h
  split at h <;> try (rename_i heq; cases heq)
  · split at h
    · exact h.elim
    · rename_i hcond
      simp only [Bool.or_eq_true, not_or, Bool.not_eq_true', Bool.not_eq_false] at hcond
      obtain ⟨⟨so, fo⟩, hset⟩ := hcond
      split at h
      · rename_i ts pr htgt
        simp only [qE, pE] at h
        obtain ⟨s1, s2, s3, s4⟩ := scopeOk_parts so
        refine wpAny_comprehension_free (use := use) rfl (set_no hset env) (clos R fo) s1 s3 (thenE (hE _ env ρ _ A E s h₀ ek R ok h) fun v s₁ d rd q ch => ?_)
        split at q
        · rename_i l hl
          obtain ⟨fl, hlen, hp⟩ := q
          exact compBlock1 hE ek ok so fo htgt (R.ext ch.ext) rd hl fl hlen hp (hRR s₁ ch)
        · exact q.elim
      · exact h.elim
  · split at h
    · exact h.elim
    · rename_i hcond
      simp only [Bool.or_eq_true, not_or, Bool.not_eq_true', Bool.not_eq_false, Bool.and_eq_true, beq_iff_eq, bne_iff_ne] at hcond
      obtain ⟨⟨⟨so, fo⟩, ⟨⟨⟨⟨⟨⟨h1, h2⟩, h3⟩, h4⟩, h5⟩, h6⟩, h7⟩⟩, hset⟩ := hcond
      split at h
      · rename_i i j l hi hj hl
        simp only [qE, pE] at h
        obtain ⟨s1, s2, s3, s4⟩ := scopeOk_parts so
        refine wpAny_comprehension_free (use := use) rfl (set_no hset env) (clos R fo) s1 s3 (thenE (hE _ env ρ _ A E s h₀ ek R ok h) fun v s₁ d rd q ch => ?_)
        split at q
        · rename_i l hl'
          obtain ⟨fl, hlen, hp⟩ := q
          exact compBlock2 hE ek ok so fo h1 h2 h3 h4 h5 hi hj h6 h7 hl (R.ext ch.ext) rd hl' fl hlen hp (hRR s₁ ch)
        · exact q.elim
      · exact h.elim
  · exact h.elim

theorem stepC (hE : SE c n k) : SC c n (k + 1) := by
  intro e env ρ Q A E s h₀ ek R ok hn h
  cases e <;> first | (simp [notComp] at hn; done) | skip
  · rename_i elt gens sc pos
    rw [eval_ListComp]
    refine compGo hE ek ok R h fun s₁ ch => ?_
    intro Dd C s' zs ws fD fC ne sm ex ⟨m, hn⟩ hl rs fl hq
    refine ⟨m, hn, fun h' hs' => ?_⟩
    have ks := keepSeq_ns hn hs'
    refine ⟨.list zs, ⟨Dd, ws, rfl, ks.l _ _ hl, Reps.keep ks _ _ rs⟩, hq, ?_⟩
    obtain ⟨g, tk, rfl⟩ := sm
    obtain ⟨g₁, tk₁, rfl, ex₁⟩ := ch
    refine ⟨h', tk, rfl, fun b o e => hs'.extBut b o ?_ (ex b o (ex₁ b o e))⟩
    rintro rfl
    have := ex₁ _ o e
    dsimp only at fC
    rw [fC] at this; cases this
  · simp only [qE] at h
    simp [cE, pE] at h
  · simp only [qE] at h
    simp [cE, pE] at h

theorem stepA (hE : SE c n k) : SCA c n (k + 1) := by
  intro elt gens sc vp px pos x i env ρ Q A E s h₀ ek R ok hl hi hsw h
  have hsw' : swapsWith (.ListComp elt gens sc vp) (some (.Name x px)) pos.line env = pure true := by
    have hb : env.blockKind = .function := by unfold Env.blockKind; rw [ek.k]; rfl
    simp only [Bool.and_eq_true] at hsw
    show (pure (env.blockKind == .function && env.kindOf x == some .local && px.line == vp.line && !(sc.names.any fun (n, k) => n == x && (k == .local || k == .cell))) : Sem Bool) = pure true
    rw [hb, kindOf_eq, hl, hsw.1, hsw.2]; rfl
  rw [exec_Assign_Name_used _ _ _ _ hsw']
  refine wpAny_bind (wpAny_standAt (wpAny_bind ?_))
  show wpAny _ A (do let _ ← comprehension (.ListComp elt gens sc vp) sc env (firstIterPos gens vp) (newList []) (firstAsync gens) (firstIter gens env) (some (assign (.Name x px) env))) _ _ s
  refine wpAny_bind (wpAny_mono (compGo (use := some (assign (.Name x px) env)) (Post := fun _ s' => Sm s s' ∧ KB env s.heap s'.heap ∧ ∃ d, Q d ∧ SR c h₀ env (put ρ i d) s'.heap) hE ek ok R h fun s₁ ch => ?_) (fun _ s' hq => wpAny_pure (wpAny_pure ⟨rfl, hq⟩)) fun _ _ e => e)
  intro Dd C s' zs ws fD fC ne sm ex ⟨m, hn⟩ hlist rs fl hq
  have fC' : s.heap.get? C = none := by
    cases q : s.heap.get? C with
    | none => rfl
    | some o => rw [ch.ext _ _ q] at fC; cases fC
  have ex' : Ext s.heap s'.heap := fun b o e => ex b o (ch.ext b o e)
  have R' := R.ext ex'
  have nC : C ≠ env.locals := by
    rintro rfl
    obtain ⟨m', ⟨o, _, _, ho, _⟩, _⟩ := R.ns
    rw [ho] at fC'; cases fC'
  show wpAny _ A (assign (.Name x px) env (.ref Dd)) _ _ _
  refine wpAny_mono (stores_assign (c := c) (p := px) hl hi h₀ ρ (.list zs) (.ref Dd) A E s' ek R' ⟨Dd, ws, rfl, hlist, rs⟩) (fun _ s₂ h₂ => ?_) fun _ _ e => e
  obtain ⟨g, tk, rfl, sb, ks, R₂⟩ := h₂
  refine ⟨m, hn.sameBut sb nC, fun h' hs' => ?_⟩
  refine ⟨(ch.sm.trans sm).trans ⟨_, tk, rfl⟩, ?_, .list zs, hq, ?_⟩
  · intro b o n1 n2 e
    refine hs'.extBut b o ?_ (sb.extBut b o n1 (ex' b o e))
    rintro rfl; rw [fC'] at e; cases e
  · have ksC := keepSeq_ns (hn.sameBut sb nC) hs'
    refine R₂.move (fun b o e => hs'.extBut b o ?_ (R₂.keep b o e)) ksC (fun o e => hs'.extBut _ o (Ne.symm nC) e) (fun y a o e q => hs'.extBut a o ?_ q)
    · rintro rfl; rw [R.keep _ _ e] at fC'; cases fC'
    · rintro rfl
      obtain ⟨v, ov, hov, _⟩ := R.live y a e
      rw [hov] at fC'; cases fC'
end
end
section
open PySem PySem.W PySem.Calls PyProof.Rows PySem.SeqAt
theorem allE (c : Cx) (n : Nat) : ∀ k, SE c n k ∧ SL c n k ∧ ST c n k ∧ SB c n k
  | 0 => ⟨fun _ _ _ _ _ _ _ _ _ _ _ h => h.elim, fun _ _ _ _ _ _ _ _ _ _ _ _ _ h => h.elim, fun _ _ _ _ _ _ _ _ _ _ _ _ h => h.elim, fun _ _ _ _ _ _ _ _ _ _ _ _ _ h => h.elim⟩
  | k + 1 => by
    obtain ⟨hE, hL, hT, hB⟩ := allE c n k
    exact ⟨stepE hE hL hT (stepC hE), stepL hE hL, stepT hE hT hB, stepB hT hB⟩
theorem allA (c : Cx) (n : Nat) : ∀ k, SCA c n k
  | 0 => fun _ _ _ _ _ _ _ _ _ _ _ _ _ _ _ _ _ _ _ _ _ h => h.elim
  | k + 1 => stepA (allE c n k).1
theorem allS (c : Cx) (n : Nat) : ∀ k, SS c n k
  | 0 => fun _ _ _ _ _ _ _ _ _ _ _ h => h.elim
  | k + 1 => stepS (fun j => (allE c n j).1) (fun j => (allE c n j).2.2.1) (allA c n) (allS c n k)

def initR (names : Names) (ps : List Str) (ds : List D) : Rho := names.map fun y => (ps.zip ds).lookup y.1

theorem look_init {ps : List Str} {ds : List D} : ∀ {names : Names} {x : Str} {i : Nat} {d : D}, nIdx names x = some i → look (initR names ps ds) i = some d → (ps.zip ds).lookup x = some d := by
  intro names x i d h1 h2
  obtain ⟨kk, g1, _⟩ := nIdx_get h1
  have key : ∀ (l : Names) (i : Nat), look (l.map fun y => (ps.zip ds).lookup y.1) i = (l[i]?).bind fun y => (ps.zip ds).lookup y.1 := by
    intro l
    induction l with
    | nil => intro i; rfl
    | cons y r ih => intro i; cases i with
      | zero => rfl
      | succ i => simpa [look] using ih i
  unfold initR at h2
  rw [key, g1] at h2
  exact h2

theorem zip_lookup {h : Heap} : ∀ {ps : List Str} {ds : List D} {vs : List Value} {x : Str} {d : D}, Reps h ds vs → (ps.zip ds).lookup x = some d → ∃ v, (ps.zip vs).lookup x = some v ∧ Rep h d v
  | [], _, _, _, _, _, e => by cases e
  | p :: ps, [], _, _, _, _, e => by cases e
  | p :: ps, d :: r, _, x, d', ⟨v, t, rfl, q, y⟩, e => by
    rw [List.zip_cons_cons, List.lookup_cons] at e ⊢
    split at e
    · cases e; exact ⟨v, rfl, q⟩
    · exact zip_lookup y e

theorem bindL_out {kf : Str → Option NameKind} : ∀ {bs : List (Str × Value)} {m : Str → Option Value} {x : Str}, x ∉ bs.map (·.1) → bindL kf bs m x = m x
  | [], _, _, _ => rfl
  | (n, v) :: r, m, x, h => by
    simp only [List.map_cons, List.mem_cons, not_or] at h
    show bindL kf r _ x = _
    rw [bindL_out h.2]
    split
    · simp [h.1]
    · rfl
theorem bindC_out {kf : Str → Option NameKind} : ∀ {bs : List (Str × Value)} {m : Str → Option Value} {x : Str}, x ∉ bs.map (·.1) → bindC kf bs m x = m x
  | [], _, _, _ => rfl
  | (n, v) :: r, m, x, h => by
    simp only [List.map_cons, List.mem_cons, not_or] at h
    show bindC kf r _ x = _
    rw [bindC_out h.2]
    split
    · rfl
    · simp [h.1]
theorem bindL_in {kf : Str → Option NameKind} {x : Str} (hk : kf x = some .local) : ∀ {bs : List (Str × Value)} {m : Str → Option Value} {v : Value}, (bs.map (·.1)).Nodup → bs.lookup x = some v → bindL kf bs m x = some v
  | [], _, _, _, e => by cases e
  | (n, w) :: r, m, v, nd, e => by
    simp only [List.map_cons, List.nodup_cons] at nd
    show bindL kf r _ x = _
    rw [List.lookup_cons] at e
    by_cases hx : x = n
    · subst hx
      simp only [beq_self_eq_true] at e
      cases e
      rw [bindL_out nd.1, if_pos hk, if_pos rfl]
    · simp only [beq_eq_false_iff_ne.mpr hx] at e
      exact bindL_in hk nd.2 e
theorem bindC_in {kf : Str → Option NameKind} {x : Str} (hk : kf x = some .cell) : ∀ {bs : List (Str × Value)} {m : Str → Option Value} {v : Value}, (bs.map (·.1)).Nodup → bs.lookup x = some v → bindC kf bs m x = some v
  | [], _, _, _, e => by cases e
  | (n, w) :: r, m, v, nd, e => by
    simp only [List.map_cons, List.nodup_cons] at nd
    show bindC kf r _ x = _
    rw [List.lookup_cons] at e
    by_cases hx : x = n
    · subst hx
      simp only [beq_self_eq_true] at e
      cases e
      rw [bindC_out nd.1, if_neg (by rw [hk]; intro h; cases h), if_pos rfl]
    · simp only [beq_eq_false_iff_ne.mpr hx] at e
      exact bindC_in hk nd.2 e
theorem pair_apart : ∀ {cs : List (Str × Addr)} {x y : Str} {a : Addr}, cs.Pairwise (fun u v => u.2 ≠ v.2) → (x, a) ∈ cs → (y, a) ∈ cs → x = y
  | [], _, _, _, _, h, _ => by cases h
  | c :: r, x, y, a, hp, h1, h2 => by
    rw [List.pairwise_cons] at hp
    cases h1 with
    | head => cases h2 with
      | head => rfl
      | tail _ h2 => exact (hp.1 (y, a) h2 rfl).elim
    | tail _ h1 => cases h2 with
      | head => exact (hp.1 (x, a) h1 rfl).elim
      | tail _ h2 => exact pair_apart hp.2 h1 h2
theorem cellsFrom_has {x : Str} : ∀ (names : Names) (n : Nat) (acc : List (Str × Addr)), (x, NameKind.cell) ∈ names ∨ (acc.lookup x).isSome = true → ((cellsFrom n names acc).lookup x).isSome = true
  | [], n, acc, h => by rcases h with h | h; cases h; exact h
  | (m, k) :: r, n, acc, h => by
    unfold cellsFrom
    split
    · refine cellsFrom_has r _ _ ?_
      rcases h with h | h
      · cases h with
        | head => right; rw [List.lookup_cons]; simp
        | tail _ h => exact .inl h
      · right; rw [List.lookup_cons]; split
        · rfl
        · exact h
    · rename_i hk
      refine cellsFrom_has r _ _ ?_
      rcases h with h | h
      · cases h with
        | head => simp at hk
        | tail _ h => exact .inl h
      · exact .inr h

theorem zip_fst : ∀ (ps : List Str) (vs : List Value), (ps.zip vs).map (·.1) = ps.take (min ps.length vs.length)
  | [], _ => rfl
  | p :: ps, [] => by simp
  | p :: ps, v :: vs => by simp [zip_fst ps vs, Nat.succ_min_succ]

structure FnOk (c : Cx) (f : Str) (a : Addr) (fd : FuncData) (body : List Stmt) : Prop where
  g : nsIn c.K mainGlobals f = some (some (.ref a))
  l : ∃ oc od osl, c.K.lookup a = some ⟨oc, od, .func fd, osl⟩
  gl : fd.globals = mainGlobals
  bn : fd.builtins = builtinsNs
  cl : fd.closure = []
  bd : fd.body = .stmts body
  kd : fd.scope.kind = .function
  co : fd.scope.isCoroutine = false
  gn : fd.scope.isGenerator = false
  cd : codeIn c.K fd.code fd.qualname = true

theorem FnOk.is {c : Cx} {f : Str} {a : Addr} {fd : FuncData} {body : List Stmt} (F : FnOk c f a fd body) : FnIs c f := by
  obtain ⟨oc, od, osl, h⟩ := F.l
  exact ⟨a, _, fd, F.g, h, rfl⟩

/-- the entry of a def -/
theorem tellOf {c : Cx} {n k : Nat} {f : Str} {a : Addr} {fd : FuncData} {body : List Stmt} (F : FnOk c f a fd body) {ds dd : List D} {d : D} {ps : List Str} {dv : List Value} (hps : ps.Nodup)
    (hkind : ∀ x ∈ ps, fd.scope.names.lookup x = some .local ∨ fd.scope.names.lookup x = some .cell)
    (hb : ∀ (vs : List Value) (S : Setting), vs.length = ds.length → peek c.K S (bindArgs fd ⟨vs, []⟩) = some (ps.zip (vs ++ dv))) (hd : ∀ h, c.K.In h → Reps h dd dv)
    (h : qS c n (cS k fd.scope.names body) (initR fd.scope.names ps (ds ++ dd)) (fun fl => fl = .rt d)) : Tell c (n + 1) f ds d := by
  intro a' e A E s vs hw ok hr
  have ha : a' = a := by rw [F.g] at e; cases e; rfl
  subst ha
  obtain ⟨oc, od, osl, hl⟩ := F.l
  have hln := Reps.length hr
  refine wpAny_call ?_
  have hrm : A.depth < recursionLimit := by have := ok.dp; show A.depth < 1000; omega
  refine codeAny_call_function hrm (hw.k _ _ hl) rfl F.co F.gn F.bd (codeRec_of hw.k F.cd) (kp_binds hw.k (fun S => hb vs S hln) _ _ _ _ ?_)
  rw [F.cl]
  have rall : Reps s.heap (ds ++ dd) (vs ++ dv) := Reps.append hr (hd _ hw.k)
  have zmem : ∀ x ∈ ps.zip (vs ++ dv), x.1 ∈ ps := fun x hx => (List.of_mem_zip (a := x.1) (b := x.2) hx).1
  have znd : ((ps.zip (vs ++ dv)).map (·.1)).Nodup := by
    have : ((ps.zip (vs ++ dv)).map (·.1)).Sublist ps := by
      have h0 : (ps.zip (vs ++ dv)).map (·.1) = ps.take (min ps.length (vs ++ dv).length) := by
        exact zip_fst ps (vs ++ dv)
      rw [h0]; exact List.take_sublist _ _
    exact this.nodup hps
  refine wpAny_newFunctionEnv_cells F.kd (fun x hx => ?_) fun env he s' x => ?_
  · rcases hkind _ (zmem x hx) with h1 | h1
    · exact .inl h1
    · exact .inr ⟨h1, cellsFrom_has _ _ _ (.inl (lookup_mem h1))⟩
  subst he
  refine ⟨hw.t.nolimit.keeps x.toInCall.keep, codeAny_func ?_⟩
  have ek : EnvOk (newEnv fd.scope s.heap.objs.size fd.globals (cellsFrom (s.heap.objs.size + 1) fd.scope.names []) (fd.qualname ++ ".<locals>.") (some a') fd.code none fd.builtins) := ⟨F.gl, F.bn, F.kd⟩
  have exk : Ext s.heap s'.heap := x.toInCall.keep
  have R : SR c s.heap (newEnv fd.scope s.heap.objs.size fd.globals (cellsFrom (s.heap.objs.size + 1) fd.scope.names []) (fd.qualname ++ ".<locals>.") (some a') fd.code none fd.builtins) (initR fd.scope.names ps (ds ++ dd)) s'.heap := by
    refine ⟨hw, exk, fresh_of (Nat.le_refl _), ⟨_, x.toInCall.ns, ?_⟩, ?_, ?_, ?_, ?_⟩
    · intro y i d' h1 h2 h3
      obtain ⟨v, hv, rv⟩ := zip_lookup rall (look_init h1 h2)
      exact ⟨v, bindL_in h3 znd hv, rv.ext exk⟩
    · intro y i d' h1 h2 h3
      obtain ⟨v, hv, rv⟩ := zip_lookup rall (look_init h1 h2)
      have hy : y ∈ ps := zmem (y, v) (mem_of_lookup hv)
      have h3' : fd.scope.names.lookup y = some .cell := by
        rcases hkind y hy with h4 | h4
        · have h3'' : fd.scope.names.lookup y = some .cell ∨ fd.scope.names.lookup y = some .free := h3
          rw [h4] at h3''
          rcases h3'' with h5 | h5 <;> cases h5
        · exact h4
      obtain ⟨ca, hca⟩ := Option.isSome_iff_exists.mp (cellsFrom_has fd.scope.names (s.heap.objs.size + 1) [] (.inl (lookup_mem h3')))
      have := x.cell y ca hca
      rw [bindC_in (kf := _) h3' znd hv] at this
      exact ⟨ca, v, hca, this, rv.ext exk⟩
    · intro y h1
      obtain ⟨ca, hca⟩ := Option.isSome_iff_exists.mp (cellsFrom_has fd.scope.names (s.heap.objs.size + 1) [] (.inl (lookup_mem h1)))
      exact ⟨ca, hca, fresh_of (Nat.le_of_lt (x.above y ca (mem_of_lookup hca)))⟩
    · intro y ca hca
      exact ⟨_, x.cell y ca hca⟩
    · intro y z ca h1 h2
      exact pair_apart x.apart (mem_of_lookup h1) (mem_of_lookup h2)
  refine wpAny_mono (allS c n k body _ _ _ (A.deeper _) _ s' s.heap ek R (ok.deeper _) h) (fun fl s₂ sv => ?_) fun _ _ e => e
  obtain ⟨sm, ex, kb, ⟨ρ', rfl, R', hk⟩ | ⟨v, d', rfl, rd, hk⟩⟩ := sv
  · cases hk
  · cases hk
    refine ⟨d, rd, rfl, ?_⟩
    obtain ⟨g, tk, e1⟩ := x.toInCall.same
    obtain ⟨g₂, tk₂, e2⟩ := sm
    rw [e2] at ex ⊢
    rw [e1]
    exact ⟨g₂, tk₂, rfl, ex⟩
end
section
open PySem PySem.W PySem.Calls PyProof.Rows PySem.SeqAt
theorem fnIs' {K : Frag} {c : Cx} {f : Str} {a : Addr} {o : Obj} {fd : FuncData} (hK : c.K = K) (g : nsIn K mainGlobals f = some (some (.ref a))) (l : K.lookup a = some o) (d : o.data = .func fd) : FnIs c f := by
  subst hK; exact ⟨a, o, fd, g, l, d⟩

theorem tellOf' {K : Frag} {c : Cx} {n k : Nat} {f : Str} {a : Addr} {fd : FuncData} {body : List Stmt} {oc : Value} {od : Option Addr} {osl : Array (Option Value)} {ds dd : List D} {d : D} {ps : List Str} {dv : List Value} {code : PS} {R : Rho}
    (hK : c.K = K) (g : nsIn K mainGlobals f = some (some (.ref a))) (l : K.lookup a = some ⟨oc, od, .func fd, osl⟩) (gl : fd.globals = mainGlobals) (bn : fd.builtins = builtinsNs) (cl : fd.closure = []) (bd : fd.body = .stmts body)
    (kd : fd.scope.kind = .function) (co : fd.scope.isCoroutine = false) (gn : fd.scope.isGenerator = false) (cd : codeIn K fd.code fd.qualname = true) (hps : ps.Nodup)
    (hkind : ∀ x ∈ ps, fd.scope.names.lookup x = some .local ∨ fd.scope.names.lookup x = some .cell)
    (hb : ∀ (vs : List Value) (S : Setting), vs.length = ds.length → peek K S (bindArgs fd ⟨vs, []⟩) = some (ps.zip (vs ++ dv))) (hd : ∀ h, K.In h → Reps h dd dv)
    (hcode : cS k fd.scope.names body = code) (hR : initR fd.scope.names ps (ds ++ dd) = R)
    (h : qS c n code R (fun fl => fl = .rt d)) : Tell c (n + 1) f ds d := by
  subst hK; subst hcode; subst hR
  exact tellOf ⟨g, ⟨oc, od, osl, l⟩, gl, bn, cl, bd, kd, co, gn, cd⟩ hps hkind hb hd h

theorem tellOfD {K : Frag} {c : Cx} {n k j : Nat} {f : Str} {a T : Addr} {fd : FuncData} {body : List Stmt} {oc : Value} {od : Option Addr} {osl : Array (Option Value)} {od' : Obj} {xs : Array Value} {kk : Nat} {ds dd : List D} {d : D} {ps : List Str} {code : PS} {R : Rho}
    (hK : c.K = K) (g : nsIn K mainGlobals f = some (some (.ref a))) (l : K.lookup a = some ⟨oc, od, .func fd, osl⟩) (df : fd.defaults = .ref T) (lT : K.lookup T = some od') (dT : od'.data = .seq xs kk)
    (gl : fd.globals = mainGlobals) (bn : fd.builtins = builtinsNs) (cl : fd.closure = []) (bd : fd.body = .stmts body)
    (kd : fd.scope.kind = .function) (co : fd.scope.isCoroutine = false) (gn : fd.scope.isGenerator = false) (cd : codeIn K fd.code fd.qualname = true) (hps : ps.Nodup)
    (hkind : ∀ x ∈ ps, fd.scope.names.lookup x = some .local ∨ fd.scope.names.lookup x = some .cell)
    (hb : ∀ (vs : List Value) (S : Setting), vs.length = ds.length → peek K S (bindArgs fd ⟨vs, []⟩) = some (ps.zip (vs ++ xs.toList.drop j))) (hd : ∀ h, K.In h → Reps h dd (xs.toList.drop j))
    (hcode : cS k fd.scope.names body = code) (hR : initR fd.scope.names ps (ds ++ dd) = R)
    (h : qS c n code R (fun fl => fl = .rt d)) : Tell c (n + 1) f ds d :=
  tellOf' hK g l gl bn cl bd kd co gn cd hps hkind hb hd hcode hR h

theorem gTup {K : Frag} {c : Cx} {g : Str} {a : Addr} {o : Obj} {vs : List Value} {ns : List Int} {k : Nat} (hK : c.K = K) (e : nsIn K mainGlobals g = some (some (.ref a))) (l : K.lookup a = some o) (hc : o.cls = .type "tuple")
    (hd : o.data = .seq vs.toArray k) (hi : IntsAre vs ns) : GIs c g (.tup (ns.map D.int)) := by
  subst hK
  exact ⟨_, e, fun h X => ⟨a, vs, rfl, ⟨o, X _ _ l, hc, k, hd⟩, Reps.ints hi⟩⟩
theorem gInt {K : Frag} {c : Cx} {g : Str} {i : Int} {t : Tok} (hK : c.K = K) (e : nsIn K mainGlobals g = some (some (.int i t))) : GIs c g (.int i) := by
  subst hK; exact ⟨_, e, fun _ _ => ⟨t, rfl⟩⟩
theorem gStr {K : Frag} {c : Cx} {g : Str} {i : Str} {t : Tok} (hK : c.K = K) (e : nsIn K mainGlobals g = some (some (.str i t))) : GIs c g (.str i) := by
  subst hK; exact ⟨_, e, fun _ _ => ⟨t, rfl⟩⟩
theorem gDict {K : Frag} {c : Cx} {g x : Str} {a b : Addr} {es : Array DictEntry} {ep : Nat} {o : Obj} {vs : List Value} {ns : List Int} {k : Nat} (hK : c.K = K) (e : nsIn K mainGlobals g = some (some (.ref a)))
    (l : K.lookup a = some ⟨.type "dict", none, .dict es ep, #[]⟩) (hk : KeysOf (strKind c.prog c.w) es) (hv : findBy (strKind c.prog c.w).is es x = some (.ref b))
    (l₂ : K.lookup b = some o) (hc : o.cls = .type "tuple") (hd : o.data = .seq vs.toArray k) (hi : IntsAre vs ns) : GDs c g x (.tup (ns.map D.int)) := by
  subst hK
  have hm : ∀ s : Shared, c.K.In s.heap → s.heap.MapOf (strKind c.prog c.w) a (findBy (strKind c.prog c.w).is es) := fun s X => ⟨_, es, ep, X _ _ l, ⟨rfl, rfl, rfl⟩, rfl, hk, fun _ => rfl⟩
  refine ⟨a, e, fun s X => (hm s X).typeIs, fun A E s t hw _ => ?_⟩
  refine wpAny_getItem_of (strKind_is _ _ x t) (hm s hw.k) hv ⟨.tup (ns.map D.int), ⟨b, vs, rfl, ⟨o, hw.k _ _ l₂, hc, k, hd⟩, Reps.ints hi⟩, rfl, ?_⟩
  exact ⟨s.heap, s.toks + 1, rfl, fun _ _ e => e⟩
end
section
open PySem PySem.W PySem.Calls PyProof.Rows PySem.SeqAt
def c_trailing : PS :=
 (.ifs (.nt (.var 0))
 (.ret (.cst (.int 0)))
 .done
 (.ret (.bin .Sub (.bitlen (.bin .BitAnd (.var 0) (.neg (.var 0)))) (.cst (.int 1)))))

def c_normalize0 : PS :=
 (.ifs (.nt (.var 1))
 (.ret (.glob "fzero"))
 .done
 (.asg 6 (.bin .Sub (.var 3) (.var 4))
 (.ifs (.cmp .Gt (.var 6) (.cst (.int 0)))
 (.ifs (.cmp .Eq (.var 5) (.glob "round_nearest"))
 (.asg 7 (.bin .RShift (.var 1) (.bin .Sub (.var 6) (.cst (.int 1))))
 (.ifs (.and (.bin .BitAnd (.var 7) (.cst (.int 1))) (.or (.bin .BitAnd (.var 7) (.cst (.int 2))) (.bin .BitAnd (.var 1) (.bin .Sub (.bin .LShift (.glob "MPZ_ONE") (.bin .Sub (.var 6) (.cst (.int 1)))) (.cst (.int 1))))))
 (.asg 1 (.bin .Add (.bin .RShift (.var 7) (.cst (.int 1))) (.cst (.int 1)))
 .done)
 (.asg 1 (.bin .RShift (.var 7) (.cst (.int 1)))
 .done)
 .done))
 (.ifs (.sub (.dget "shifts_down" (.var 5)) (.var 0))
 (.aug 1 .RShift (.var 6)
 .done)
 (.asg 1 (.neg (.bin .RShift (.neg (.var 1)) (.var 6)))
 .done)
 .done)
 (.aug 2 .Add (.var 6)
 (.asg 3 (.var 4)
 .done)))
 .done
 (.ifs (.nt (.bin .BitAnd (.var 1) (.cst (.int 1))))
 (.asg 7 (.call "trailing" (.cons (.var 1) .nil))
 (.aug 1 .RShift (.var 7)
 (.aug 2 .Add (.var 7)
 (.aug 3 .Sub (.var 7)
 .done))))
 .done
 (.ifs (.cmp .Eq (.var 1) (.cst (.int 1)))
 (.asg 3 (.cst (.int 1))
 .done)
 .done
 (.ret (.tup (.cons (.var 0) (.cons (.var 1) (.cons (.var 2) (.cons (.var 3) .nil)))))))))))

def c_normalize : PS :=
 (.asrt (.cmp .Eq (.var 3) (.bitlen (.var 1)))
 (.asrt (.cmp .GtE (.var 1) (.cst (.int 0)))
 (.ret (.call "_normalize" (.cons (.var 0) (.cons (.var 1) (.cons (.var 2) (.cons (.var 3) (.cons (.var 4) (.cons (.var 5) .nil))))))))))

def c_from_man_exp : PS :=
 (.ifs (.nt (.isInt (.var 0)))
 .bad
 .done
 (.asg 4 (.cst (.int 0))
 (.ifs (.cmp .Lt (.var 0) (.cst (.int 0)))
 (.asg 4 (.cst (.int 1))
 (.asg 0 (.neg (.var 0))
 .done))
 .done
 (.asg 5 (.bitlen (.var 0))
 (.ifs (.nt (.var 2))
 (.ifs (.nt (.var 0))
 (.ret (.glob "fzero"))
 .done
 (.ifs (.nt (.bin .BitAnd (.var 0) (.cst (.int 1))))
 (.ifs (.bin .BitAnd (.var 0) (.cst (.int 2)))
 (.ret (.tup (.cons (.var 4) (.cons (.bin .RShift (.var 0) (.cst (.int 1))) (.cons (.bin .Add (.var 1) (.cst (.int 1))) (.cons (.bin .Sub (.var 5) (.cst (.int 1))) .nil))))))
 .done
 (.asg 6 (.call "trailing" (.cons (.var 0) .nil))
 (.aug 0 .RShift (.var 6)
 (.aug 1 .Add (.var 6)
 (.aug 5 .Sub (.var 6)
 .done)))))
 .done
 (.ret (.tup (.cons (.var 4) (.cons (.var 0) (.cons (.var 1) (.cons (.var 5) .nil))))))))
 .done
 (.ret (.call "normalize" (.cons (.var 4) (.cons (.var 0) (.cons (.var 1) (.cons (.var 5) (.cons (.var 2) (.cons (.var 3) .nil)))))))))))))

def c_mpf_cmp : PS :=
 (.unp [2, 3, 4, 5] (.var 0)
 (.unp [6, 7, 8, 9] (.var 1)
 (.ifs (.or (.nt (.var 3)) (.nt (.var 7)))
 (.ifs (.cmp .Eq (.var 0) (.glob "fzero"))
 (.ret (.neg (.call "mpf_sign" (.cons (.var 1) .nil))))
 .done
 (.ifs (.cmp .Eq (.var 1) (.glob "fzero"))
 (.ret (.call "mpf_sign" (.cons (.var 0) .nil)))
 .done
 (.ifs (.cmp .Eq (.var 0) (.var 1))
 (.ret (.cst (.int 0)))
 .done
 (.ifs (.cmp .Eq (.var 1) (.glob "fnan"))
 (.ret (.cst (.int 1)))
 .done
 (.ifs (.cmp .Eq (.var 0) (.glob "finf"))
 (.ret (.cst (.int 1)))
 .done
 (.ifs (.cmp .Eq (.var 1) (.glob "fninf"))
 (.ret (.cst (.int 1)))
 .done
 (.ret (.neg (.cst (.int 1))))))))))
 .done
 (.ifs (.cmp .NotEq (.var 2) (.var 6))
 (.ifs (.nt (.var 2))
 (.ret (.cst (.int 1)))
 .done
 (.ret (.neg (.cst (.int 1)))))
 .done
 (.ifs (.cmp .Eq (.var 4) (.var 8))
 (.ifs (.cmp .Eq (.var 3) (.var 7))
 (.ret (.cst (.int 0)))
 .done
 (.ifs (.cmp .Gt (.var 3) (.var 7))
 (.ifs (.var 2)
 (.ret (.neg (.cst (.int 1))))
 (.ret (.cst (.int 1)))
 .done)
 (.ifs (.var 2)
 (.ret (.cst (.int 1)))
 (.ret (.neg (.cst (.int 1))))
 .done)
 .done))
 .done
 (.asg 10 (.bin .Add (.var 5) (.var 4))
 (.asg 11 (.bin .Add (.var 9) (.var 8))
 (.ifs (.var 2)
 (.ifs (.cmp .Lt (.var 10) (.var 11))
 (.ret (.cst (.int 1)))
 .done
 (.ifs (.cmp .Gt (.var 10) (.var 11))
 (.ret (.neg (.cst (.int 1))))
 .done
 .done))
 (.ifs (.cmp .Lt (.var 10) (.var 11))
 (.ret (.neg (.cst (.int 1))))
 .done
 (.ifs (.cmp .Gt (.var 10) (.var 11))
 (.ret (.cst (.int 1)))
 .done
 .done))
 (.asg 12 (.call "mpf_sub" (.cons (.var 0) (.cons (.var 1) (.cons (.cst (.int 5)) (.cons (.glob "round_floor") .nil)))))
 (.ifs (.sub (.var 12) (.cst (.int 0)))
 (.ret (.neg (.cst (.int 1))))
 .done
 (.ret (.cst (.int 1)))))))))))))

def c_mpf_lt : PS :=
 (.ifs (.or (.cmp .Eq (.var 0) (.glob "fnan")) (.cmp .Eq (.var 1) (.glob "fnan")))
 (.ret (.cst (.bool false)))
 .done
 (.ret (.cmp .Lt (.call "mpf_cmp" (.cons (.var 0) (.cons (.var 1) .nil))) (.cst (.int 0)))))

def c_mpf_le : PS :=
 (.ifs (.or (.cmp .Eq (.var 0) (.glob "fnan")) (.cmp .Eq (.var 1) (.glob "fnan")))
 (.ret (.cst (.bool false)))
 .done
 (.ret (.cmp .LtE (.call "mpf_cmp" (.cons (.var 0) (.cons (.var 1) .nil))) (.cst (.int 0)))))

def c_mpf_gt : PS :=
 (.ifs (.or (.cmp .Eq (.var 0) (.glob "fnan")) (.cmp .Eq (.var 1) (.glob "fnan")))
 (.ret (.cst (.bool false)))
 .done
 (.ret (.cmp .Gt (.call "mpf_cmp" (.cons (.var 0) (.cons (.var 1) .nil))) (.cst (.int 0)))))

def c_mpf_ge : PS :=
 (.ifs (.or (.cmp .Eq (.var 0) (.glob "fnan")) (.cmp .Eq (.var 1) (.glob "fnan")))
 (.ret (.cst (.bool false)))
 .done
 (.ret (.cmp .GtE (.call "mpf_cmp" (.cons (.var 0) (.cons (.var 1) .nil))) (.cst (.int 0)))))

def c_mpf_min_max : PS :=
 (.asg2 1 2 (.sub (.var 0) (.cst (.int 0)))
 (.fors 3 (.drop (.var 0) 1)
 (.ifs (.call "mpf_lt" (.cons (.var 3) (.cons (.var 1) .nil)))
 (.asg 1 (.var 3)
 .done)
 .done
 (.ifs (.call "mpf_gt" (.cons (.var 3) (.cons (.var 2) .nil)))
 (.asg 2 (.var 3)
 .done)
 .done
 .done))
 (.ret (.tup (.cons (.var 1) (.cons (.var 2) .nil))))))

def c_mpf_pos : PS :=
 (.ifs (.var 1)
 (.unp [3, 4, 5, 6] (.var 0)
 (.ifs (.and (.nt (.var 4)) (.var 5))
 (.ret (.var 0))
 .done
 (.ret (.call "normalize" (.cons (.var 3) (.cons (.var 4) (.cons (.var 5) (.cons (.var 6) (.cons (.var 1) (.cons (.var 2) .nil))))))))))
 .done
 (.ret (.var 0)))

def c_mpf_neg : PS :=
 (.unp [3, 4, 5, 6] (.var 0)
 (.ifs (.nt (.var 4))
 (.ifs (.var 5)
 (.ifs (.cmp .Eq (.var 0) (.glob "finf"))
 (.ret (.glob "fninf"))
 .done
 (.ifs (.cmp .Eq (.var 0) (.glob "fninf"))
 (.ret (.glob "finf"))
 .done
 .done))
 .done
 (.ret (.var 0)))
 .done
 (.ifs (.nt (.var 1))
 (.ret (.tup (.cons (.bin .Sub (.cst (.int 1)) (.var 3)) (.cons (.var 4) (.cons (.var 5) (.cons (.var 6) .nil))))))
 .done
 (.ret (.call "normalize" (.cons (.bin .Sub (.cst (.int 1)) (.var 3)) (.cons (.var 4) (.cons (.var 5) (.cons (.var 6) (.cons (.var 1) (.cons (.var 2) .nil)))))))))))

def c_mpf_sign : PS :=
 (.unp [1, 2, 3, 4] (.var 0)
 (.ifs (.nt (.var 2))
 (.ifs (.cmp .Eq (.var 0) (.glob "finf"))
 (.ret (.cst (.int 1)))
 .done
 (.ifs (.cmp .Eq (.var 0) (.glob "fninf"))
 (.ret (.neg (.cst (.int 1))))
 .done
 (.ret (.cst (.int 0)))))
 .done
 (.ret (.bin .Pow (.neg (.cst (.int 1))) (.var 1)))))

def c_mpf_add : PS :=
 (.unp [5, 6, 7, 8] (.var 0)
 (.unp [9, 10, 11, 12] (.var 1)
 (.aug 9 .BitXor (.var 4)
 (.ifs (.and (.var 6) (.var 10))
 (.asg 13 (.bin .Sub (.var 7) (.var 11))
 (.ifs (.var 13)
 (.ifs (.cmp .Gt (.var 13) (.cst (.int 0)))
 (.ifs (.and (.cmp .Gt (.var 13) (.cst (.int 100))) (.var 2))
 (.asg 14 (.bin .Sub (.bin .Sub (.bin .Add (.var 8) (.var 7)) (.var 12)) (.var 11))
 (.ifs (.cmp .Gt (.var 14) (.bin .Add (.var 2) (.cst (.int 4))))
 (.asg 13 (.bin .Add (.var 2) (.cst (.int 4)))
 (.aug 6 .LShift (.var 13)
 (.ifs (.cmp .Eq (.var 9) (.var 5))
 (.aug 6 .Add (.cst (.int 1))
 .done)
 (.aug 6 .Sub (.cst (.int 1))
 .done)
 (.ret (.call "normalize" (.cons (.var 5) (.cons (.var 6) (.cons (.bin .Sub (.var 7) (.var 13)) (.cons (.bitlen (.var 6)) (.cons (.var 2) (.cons (.var 3) .nil)))))))))))
 .done
 .done))
 .done
 (.ifs (.cmp .Eq (.var 5) (.var 9))
 (.asg 15 (.bin .Add (.var 10) (.bin .LShift (.var 6) (.var 13)))
 .done)
 (.ifs (.var 5)
 (.asg 15 (.bin .Sub (.var 10) (.bin .LShift (.var 6) (.var 13)))
 .done)
 (.asg 15 (.bin .Sub (.bin .LShift (.var 6) (.var 13)) (.var 10))
 .done)
 (.ifs (.cmp .GtE (.var 15) (.cst (.int 0)))
 (.asg 5 (.cst (.int 0))
 .done)
 (.asg 15 (.neg (.var 15))
 (.asg 5 (.cst (.int 1))
 .done))
 .done))
 (.asg 16 (.bitlen (.var 15))
 (.ret (.call "normalize" (.cons (.var 5) (.cons (.var 15) (.cons (.var 11) (.cons (.var 16) (.cons (.or (.var 2) (.var 16)) (.cons (.var 3) .nil)))))))))))
 (.ifs (.cmp .Lt (.var 13) (.cst (.int 0)))
 (.ifs (.and (.cmp .Lt (.var 13) (.neg (.cst (.int 100)))) (.var 2))
 (.asg 14 (.bin .Sub (.bin .Sub (.bin .Add (.var 12) (.var 11)) (.var 8)) (.var 7))
 (.ifs (.cmp .Gt (.var 14) (.bin .Add (.var 2) (.cst (.int 4))))
 (.asg 13 (.bin .Add (.var 2) (.cst (.int 4)))
 (.aug 10 .LShift (.var 13)
 (.ifs (.cmp .Eq (.var 5) (.var 9))
 (.aug 10 .Add (.cst (.int 1))
 .done)
 (.aug 10 .Sub (.cst (.int 1))
 .done)
 (.ret (.call "normalize" (.cons (.var 9) (.cons (.var 10) (.cons (.bin .Sub (.var 11) (.var 13)) (.cons (.bitlen (.var 10)) (.cons (.var 2) (.cons (.var 3) .nil)))))))))))
 .done
 .done))
 .done
 (.ifs (.cmp .Eq (.var 5) (.var 9))
 (.asg 15 (.bin .Add (.var 6) (.bin .LShift (.var 10) (.neg (.var 13))))
 .done)
 (.ifs (.var 9)
 (.asg 15 (.bin .Sub (.var 6) (.bin .LShift (.var 10) (.neg (.var 13))))
 .done)
 (.asg 15 (.bin .Sub (.bin .LShift (.var 10) (.neg (.var 13))) (.var 6))
 .done)
 (.ifs (.cmp .GtE (.var 15) (.cst (.int 0)))
 (.asg 5 (.cst (.int 0))
 .done)
 (.asg 15 (.neg (.var 15))
 (.asg 5 (.cst (.int 1))
 .done))
 .done))
 (.asg 16 (.bitlen (.var 15))
 (.ret (.call "normalize" (.cons (.var 5) (.cons (.var 15) (.cons (.var 7) (.cons (.var 16) (.cons (.or (.var 2) (.var 16)) (.cons (.var 3) .nil)))))))))))
 .done
 .done)
 .done)
 .done
 (.ifs (.cmp .Eq (.var 5) (.var 9))
 (.asg 15 (.bin .Add (.var 10) (.var 6))
 .done)
 (.ifs (.var 5)
 (.asg 15 (.bin .Sub (.var 10) (.var 6))
 .done)
 (.asg 15 (.bin .Sub (.var 6) (.var 10))
 .done)
 (.ifs (.cmp .GtE (.var 15) (.cst (.int 0)))
 (.asg 5 (.cst (.int 0))
 .done)
 (.asg 15 (.neg (.var 15))
 (.asg 5 (.cst (.int 1))
 .done))
 .done))
 (.asg 16 (.bitlen (.var 15))
 (.ret (.call "normalize" (.cons (.var 5) (.cons (.var 15) (.cons (.var 11) (.cons (.var 16) (.cons (.or (.var 2) (.var 16)) (.cons (.var 3) .nil))))))))))))
 .done
 (.ifs (.var 4)
 (.asg 1 (.call "mpf_neg" (.cons (.var 1) .nil))
 .done)
 .done
 (.ifs (.nt (.var 6))
 (.ifs (.var 7)
 (.ifs (.or (.cmp .Eq (.var 0) (.var 1)) (.or (.var 10) (.nt (.var 11))))
 (.ret (.var 0))
 .done
 (.ret (.glob "fnan")))
 .done
 (.ifs (.var 10)
 (.ret (.call "normalize" (.cons (.var 9) (.cons (.var 10) (.cons (.var 11) (.cons (.var 12) (.cons (.or (.var 2) (.var 12)) (.cons (.var 3) .nil))))))))
 .done
 (.ret (.var 1))))
 .done
 (.ifs (.var 11)
 (.ret (.var 1))
 .done
 (.ifs (.var 6)
 (.ret (.call "normalize" (.cons (.var 5) (.cons (.var 6) (.cons (.var 7) (.cons (.var 8) (.cons (.or (.var 2) (.var 8)) (.cons (.var 3) .nil))))))))
 .done
 (.ret (.var 0))))))))))

def c_mpf_sub : PS :=
 (.ret (.call "mpf_add" (.cons (.var 0) (.cons (.var 1) (.cons (.var 2) (.cons (.var 3) (.cons (.cst (.int 1)) .nil)))))))

def c_mpf_mul : PS :=
 (.unp [4, 5, 6, 7] (.var 0)
 (.unp [8, 9, 10, 11] (.var 1)
 (.asg 12 (.bin .BitXor (.var 4) (.var 8))
 (.asg 13 (.bin .Mult (.var 5) (.var 9))
 (.ifs (.var 13)
 (.asg 14 (.bitlen (.var 13))
 (.ifs (.var 2)
 (.ret (.call "normalize" (.cons (.var 12) (.cons (.var 13) (.cons (.bin .Add (.var 6) (.var 10)) (.cons (.var 14) (.cons (.var 2) (.cons (.var 3) .nil))))))))
 (.ret (.tup (.cons (.var 12) (.cons (.var 13) (.cons (.bin .Add (.var 6) (.var 10)) (.cons (.var 14) .nil))))))
 .done))
 .done
 (.asg 15 (.and (.nt (.var 5)) (.var 6))
 (.asg 16 (.and (.nt (.var 9)) (.var 10))
 (.ifs (.and (.nt (.var 15)) (.nt (.var 16)))
 (.ret (.glob "fzero"))
 .done
 (.ifs (.cmp .In (.glob "fnan") (.tup (.cons (.var 0) (.cons (.var 1) .nil))))
 (.ret (.glob "fnan"))
 .done
 (.ifs (.and (.nt (.var 9)) (.var 10))
 (.unpR [0, 1] (.tup (.cons (.var 1) (.cons (.var 0) .nil)))
 .done)
 .done
 (.ifs (.cmp .Eq (.var 1) (.glob "fzero"))
 (.ret (.glob "fnan"))
 .done
 (.ret (.sub .bad (.bin .Mult (.call "mpf_sign" (.cons (.var 0) .nil)) (.call "mpf_sign" (.cons (.var 1) .nil))))))))))))))))

def c_mpf_div : PS :=
 (.unp [4, 5, 6, 7] (.var 0)
 (.unp [8, 9, 10, 11] (.var 1)
 (.ifs (.or (.nt (.var 5)) (.nt (.var 9)))
 (.ifs (.cmp .Eq (.var 0) (.glob "fzero"))
 (.ifs (.cmp .Eq (.var 1) (.glob "fzero"))
 .bad
 .done
 (.ifs (.cmp .Eq (.var 1) (.glob "fnan"))
 (.ret (.glob "fnan"))
 .done
 (.ret (.glob "fzero"))))
 .done
 (.ifs (.cmp .Eq (.var 1) (.glob "fzero"))
 .bad
 .done
 (.asg 12 (.and (.nt (.var 5)) (.var 6))
 (.asg 13 (.and (.nt (.var 9)) (.var 10))
 (.ifs (.and (.var 12) (.var 13))
 (.ret (.glob "fnan"))
 .done
 (.ifs (.or (.cmp .Eq (.var 0) (.glob "fnan")) (.cmp .Eq (.var 1) (.glob "fnan")))
 (.ret (.glob "fnan"))
 .done
 (.ifs (.nt (.var 13))
 (.ifs (.cmp .Eq (.var 1) (.glob "fzero"))
 (.ret (.glob "fnan"))
 .done
 (.ret (.sub .bad (.bin .Mult (.call "mpf_sign" (.cons (.var 0) .nil)) (.call "mpf_sign" (.cons (.var 1) .nil))))))
 .done
 (.ret (.glob "fzero")))))))))
 .done
 (.asg 14 (.bin .BitXor (.var 4) (.var 8))
 (.ifs (.cmp .Eq (.var 9) (.cst (.int 1)))
 (.ret (.call "normalize" (.cons (.var 14) (.cons (.var 5) (.cons (.bin .Sub (.var 6) (.var 10)) (.cons (.var 7) (.cons (.var 2) (.cons (.var 3) .nil))))))))
 .done
 (.ifs (.nt (.var 2))
 (.asg 15 (.bin .Add (.bin .Add (.bin .Sub (.call "max" (.cons (.var 7) (.cons (.var 11) .nil))) (.var 7)) (.var 11)) (.cst (.int 5)))
 .done)
 (.asg 15 (.bin .Add (.bin .Add (.bin .Sub (.var 2) (.var 7)) (.var 11)) (.cst (.int 5)))
 .done)
 (.ifs (.cmp .Lt (.var 15) (.cst (.int 5)))
 (.asg 15 (.cst (.int 5))
 .done)
 .done
 (.unp [16, 17] (.dm (.bin .LShift (.var 5) (.var 15)) (.var 9))
 (.ifs (.var 17)
 (.asg 16 (.bin .Add (.bin .LShift (.var 16) (.cst (.int 1))) (.cst (.int 1)))
 (.aug 15 .Add (.cst (.int 1))
 .done))
 .done
 (.asg 18 (.bitlen (.var 16))
 (.ret (.call "normalize" (.cons (.var 14) (.cons (.var 16) (.cons (.bin .Sub (.bin .Sub (.var 6) (.var 10)) (.var 15)) (.cons (.var 18) (.cons (.or (.var 2) (.var 18)) (.cons (.var 3) .nil))))))))))))))))))

def c_mpf_pow_int : PS :=
 (.unp [4, 5, 6, 7] (.var 0)
 (.ifs (.and (.nt (.var 5)) (.var 6))
 (.ifs (.cmp .Eq (.var 0) (.glob "finf"))
 (.ifs (.cmp .Gt (.var 1) (.cst (.int 0)))
 (.ret (.var 0))
 .done
 (.ifs (.cmp .Eq (.var 1) (.cst (.int 0)))
 (.ret (.glob "fone"))
 .done
 (.ret (.glob "fzero"))))
 .done
 (.ifs (.cmp .Eq (.var 0) (.glob "fninf"))
 (.ifs (.cmp .Gt (.var 1) (.cst (.int 0)))
 (.ret (.sub (.list (.cons (.glob "finf") (.cons (.glob "fninf") .nil))) (.bin .BitAnd (.var 1) (.cst (.int 1)))))
 .done
 (.ifs (.cmp .Eq (.var 1) (.cst (.int 0)))
 (.ret (.glob "fone"))
 .done
 (.ret (.glob "fzero"))))
 .done
 (.ifs (.cmp .Eq (.var 1) (.cst (.int 0)))
 (.ret (.glob "fone"))
 .done
 (.ret (.glob "fnan")))))
 .done
 (.asg 1 (.toInt (.var 1))
 (.ifs (.cmp .Eq (.var 1) (.cst (.int 0)))
 (.ret (.glob "fone"))
 .done
 (.ifs (.cmp .Eq (.var 1) (.cst (.int 1)))
 (.ret (.call "mpf_pos" (.cons (.var 0) (.cons (.var 2) (.cons (.var 3) .nil)))))
 .done
 (.ifs (.cmp .Eq (.var 1) (.cst (.int 2)))
 (.unp [8, 5, 6, 7] (.var 0)
 (.ifs (.nt (.var 5))
 (.ret (.glob "fzero"))
 .done
 (.asg 5 (.bin .Mult (.var 5) (.var 5))
 (.ifs (.cmp .Eq (.var 5) (.cst (.int 1)))
 (.ret (.tup (.cons (.cst (.int 0)) (.cons (.glob "MPZ_ONE") (.cons (.bin .Add (.var 6) (.var 6)) (.cons (.cst (.int 1)) .nil))))))
 .done
 (.asg 7 (.bin .Sub (.bin .Add (.var 7) (.var 7)) (.cst (.int 2)))
 (.aug 7 .Add (.bitlen (.bin .RShift (.var 5) (.var 7)))
 (.ret (.call "normalize" (.cons (.cst (.int 0)) (.cons (.var 5) (.cons (.bin .Add (.var 6) (.var 6)) (.cons (.var 7) (.cons (.var 2) (.cons (.var 3) .nil))))))))))))))
 .done
 (.ifs (.cmp .Eq (.var 1) (.neg (.cst (.int 1))))
 (.ret (.call "mpf_div" (.cons (.glob "fone") (.cons (.var 0) (.cons (.var 2) (.cons (.var 3) .nil))))))
 .done
 (.ifs (.cmp .Lt (.var 1) (.cst (.int 0)))
 (.asg 9 (.call "mpf_pow_int" (.cons (.var 0) (.cons (.neg (.var 1)) (.cons (.bin .Add (.var 2) (.cst (.int 5))) (.cons (.dget "reciprocal_rnd" (.var 3)) .nil)))))
 (.ret (.call "mpf_div" (.cons (.glob "fone") (.cons (.var 9) (.cons (.var 2) (.cons (.var 3) .nil)))))))
 .done
 (.asg 10 (.bin .BitAnd (.var 4) (.var 1))
 (.ifs (.cmp .Eq (.var 5) (.cst (.int 1)))
 (.ret (.tup (.cons (.var 10) (.cons (.glob "MPZ_ONE") (.cons (.bin .Mult (.var 6) (.var 1)) (.cons (.cst (.int 1)) .nil))))))
 .done
 (.ifs (.cmp .Lt (.bin .Mult (.var 7) (.var 1)) (.cst (.int 1000)))
 (.aug 5 .Pow (.var 1)
 (.ret (.call "normalize" (.cons (.var 10) (.cons (.var 5) (.cons (.bin .Mult (.var 6) (.var 1)) (.cons (.bitlen (.var 5)) (.cons (.var 2) (.cons (.var 3) .nil)))))))))
 .done
 (.asg 11 (.or (.cmp .Eq (.var 3) (.glob "round_nearest")) (.sub (.dget "shifts_down" (.var 3)) (.var 10)))
 (.asg 12 (.bin .Add (.bin .Add (.var 2) (.bin .Mult (.cst (.int 4)) (.bitlen (.var 1)))) (.cst (.int 4)))
 (.unp [8, 13, 14, 15] (.glob "fone")
 (.whl .bad
 (.ifs (.bin .BitAnd (.var 1) (.cst (.int 1)))
 (.asg 13 (.bin .Mult (.var 13) (.var 5))
 (.asg 14 (.bin .Add (.var 14) (.var 6))
 (.aug 15 .Add (.bin .Sub (.var 7) (.cst (.int 2)))
 (.asg 15 (.bin .Add (.var 15) (.bitlen (.bin .RShift (.var 13) (.var 15))))
 (.ifs (.cmp .Gt (.var 15) (.var 12))
 (.ifs (.var 11)
 (.asg 13 (.bin .RShift (.var 13) (.bin .Sub (.var 15) (.var 12)))
 .done)
 (.asg 13 (.neg (.bin .RShift (.neg (.var 13)) (.bin .Sub (.var 15) (.var 12))))
 .done)
 (.aug 14 .Add (.bin .Sub (.var 15) (.var 12))
 (.asg 15 (.var 12)
 .done)))
 .done
 (.aug 1 .Sub (.cst (.int 1))
 (.ifs (.nt (.var 1))
 .bad
 .done
 .done)))))))
 .done
 (.asg 5 (.bin .Mult (.var 5) (.var 5))
 (.asg 6 (.bin .Add (.var 6) (.var 6))
 (.asg 7 (.bin .Sub (.bin .Add (.var 7) (.var 7)) (.cst (.int 2)))
 (.asg 7 (.bin .Add (.var 7) (.bitlen (.bin .RShift (.var 5) (.var 7))))
 (.ifs (.cmp .Gt (.var 7) (.var 12))
 (.ifs (.var 11)
 (.asg 5 (.bin .RShift (.var 5) (.bin .Sub (.var 7) (.var 12)))
 .done)
 (.asg 5 (.neg (.bin .RShift (.neg (.var 5)) (.bin .Sub (.var 7) (.var 12))))
 .done)
 (.aug 6 .Add (.bin .Sub (.var 7) (.var 12))
 (.asg 7 (.var 12)
 .done)))
 .done
 (.asg 1 (.bin .FloorDiv (.var 1) (.cst (.int 2)))
 .done)))))))
 (.ret (.call "normalize" (.cons (.var 10) (.cons (.var 13) (.cons (.var 14) (.cons (.var 15) (.cons (.var 2) (.cons (.var 3) .nil)))))))))))))))))))))))

def c_mpi_add : PS :=
 (.unp [3, 4] (.var 0)
 (.unp [5, 6] (.var 1)
 (.asg 7 (.call "mpf_add" (.cons (.var 3) (.cons (.var 5) (.cons (.var 2) (.cons (.glob "round_floor") .nil)))))
 (.asg 8 (.call "mpf_add" (.cons (.var 4) (.cons (.var 6) (.cons (.var 2) (.cons (.glob "round_ceiling") .nil)))))
 (.ifs (.cmp .Eq (.var 7) (.glob "fnan"))
 (.asg 7 (.glob "fninf")
 .done)
 .done
 (.ifs (.cmp .Eq (.var 8) (.glob "fnan"))
 (.asg 8 (.glob "finf")
 .done)
 .done
 (.ret (.tup (.cons (.var 7) (.cons (.var 8) .nil))))))))))

def c_mpi_sub : PS :=
 (.unp [3, 4] (.var 0)
 (.unp [5, 6] (.var 1)
 (.asg 7 (.call "mpf_sub" (.cons (.var 3) (.cons (.var 6) (.cons (.var 2) (.cons (.glob "round_floor") .nil)))))
 (.asg 8 (.call "mpf_sub" (.cons (.var 4) (.cons (.var 5) (.cons (.var 2) (.cons (.glob "round_ceiling") .nil)))))
 (.ifs (.cmp .Eq (.var 7) (.glob "fnan"))
 (.asg 7 (.glob "fninf")
 .done)
 .done
 (.ifs (.cmp .Eq (.var 8) (.glob "fnan"))
 (.asg 8 (.glob "finf")
 .done)
 .done
 (.ret (.tup (.cons (.var 7) (.cons (.var 8) .nil))))))))))

def c_mpi_neg : PS :=
 (.unp [2, 3] (.var 0)
 (.asg 4 (.call "mpf_neg" (.cons (.var 3) (.cons (.var 1) (.cons (.glob "round_floor") .nil))))
 (.asg 5 (.call "mpf_neg" (.cons (.var 2) (.cons (.var 1) (.cons (.glob "round_ceiling") .nil))))
 (.ret (.tup (.cons (.var 4) (.cons (.var 5) .nil)))))))

def c_mpi_abs : PS :=
 (.unp [2, 3] (.var 0)
 (.asg 4 (.call "mpf_sign" (.cons (.var 2) .nil))
 (.asg 5 (.call "mpf_sign" (.cons (.var 3) .nil))
 (.ifs (.cmp .GtE (.var 4) (.cst (.int 0)))
 (.asg 6 (.call "mpf_pos" (.cons (.var 2) (.cons (.var 1) (.cons (.glob "round_floor") .nil))))
 (.asg 7 (.call "mpf_pos" (.cons (.var 3) (.cons (.var 1) (.cons (.glob "round_ceiling") .nil))))
 .done))
 (.ifs (.cmp .GtE (.var 5) (.cst (.int 0)))
 (.asg 6 (.glob "fzero")
 (.asg 8 (.call "mpf_neg" (.cons (.var 2) .nil))
 (.ifs (.call "mpf_lt" (.cons (.var 8) (.cons (.var 3) .nil)))
 (.asg 7 (.call "mpf_pos" (.cons (.var 3) (.cons (.var 1) (.cons (.glob "round_ceiling") .nil))))
 .done)
 (.asg 7 (.call "mpf_pos" (.cons (.var 8) (.cons (.var 1) (.cons (.glob "round_ceiling") .nil))))
 .done)
 .done)))
 (.asg 6 (.call "mpf_neg" (.cons (.var 3) (.cons (.var 1) (.cons (.glob "round_floor") .nil))))
 (.asg 7 (.call "mpf_neg" (.cons (.var 2) (.cons (.var 1) (.cons (.glob "round_ceiling") .nil))))
 .done))
 .done)
 (.ret (.tup (.cons (.var 6) (.cons (.var 7) .nil))))))))

def c_mpi_mul : PS :=
 (.unp [3, 4] (.var 0)
 (.unp [5, 6] (.var 1)
 (.asg 7 (.call "mpf_sign" (.cons (.var 3) .nil))
 (.asg 8 (.call "mpf_sign" (.cons (.var 4) .nil))
 (.asg 9 (.call "mpf_sign" (.cons (.var 5) .nil))
 (.asg 10 (.call "mpf_sign" (.cons (.var 6) .nil))
 (.ifs (.cmp2 .Eq .Eq (.var 7) (.var 8) (.cst (.int 0)))
 (.ifs (.or (.cmp .Eq (.var 5) (.glob "fninf")) (.cmp .Eq (.var 6) (.glob "finf")))
 (.ret (.tup (.cons (.glob "fninf") (.cons (.glob "finf") .nil))))
 .done
 (.ret (.tup (.cons (.glob "fzero") (.cons (.glob "fzero") .nil)))))
 .done
 (.ifs (.cmp2 .Eq .Eq (.var 9) (.var 10) (.cst (.int 0)))
 (.ifs (.or (.cmp .Eq (.var 3) (.glob "fninf")) (.cmp .Eq (.var 4) (.glob "finf")))
 (.ret (.tup (.cons (.glob "fninf") (.cons (.glob "finf") .nil))))
 .done
 (.ret (.tup (.cons (.glob "fzero") (.cons (.glob "fzero") .nil)))))
 .done
 (.ifs (.cmp .GtE (.var 7) (.cst (.int 0)))
 (.ifs (.cmp .GtE (.var 9) (.cst (.int 0)))
 (.asg 11 (.call "mpf_mul" (.cons (.var 3) (.cons (.var 5) (.cons (.var 2) (.cons (.glob "round_floor") .nil)))))
 (.asg 12 (.call "mpf_mul" (.cons (.var 4) (.cons (.var 6) (.cons (.var 2) (.cons (.glob "round_ceiling") .nil)))))
 (.ifs (.cmp .Eq (.var 11) (.glob "fnan"))
 (.asg 11 (.glob "fzero")
 .done)
 .done
 (.ifs (.cmp .Eq (.var 12) (.glob "fnan"))
 (.asg 12 (.glob "finf")
 .done)
 .done
 .done))))
 (.ifs (.cmp .LtE (.var 10) (.cst (.int 0)))
 (.asg 11 (.call "mpf_mul" (.cons (.var 4) (.cons (.var 5) (.cons (.var 2) (.cons (.glob "round_floor") .nil)))))
 (.asg 12 (.call "mpf_mul" (.cons (.var 3) (.cons (.var 6) (.cons (.var 2) (.cons (.glob "round_ceiling") .nil)))))
 (.ifs (.cmp .Eq (.var 11) (.glob "fnan"))
 (.asg 11 (.glob "fninf")
 .done)
 .done
 (.ifs (.cmp .Eq (.var 12) (.glob "fnan"))
 (.asg 12 (.glob "fzero")
 .done)
 .done
 .done))))
 (.asg 11 (.call "mpf_mul" (.cons (.var 4) (.cons (.var 5) (.cons (.var 2) (.cons (.glob "round_floor") .nil)))))
 (.asg 12 (.call "mpf_mul" (.cons (.var 4) (.cons (.var 6) (.cons (.var 2) (.cons (.glob "round_ceiling") .nil)))))
 (.ifs (.cmp .Eq (.var 11) (.glob "fnan"))
 (.asg 11 (.glob "fninf")
 .done)
 .done
 (.ifs (.cmp .Eq (.var 12) (.glob "fnan"))
 (.asg 12 (.glob "finf")
 .done)
 .done
 .done))))
 .done)
 .done)
 (.ifs (.cmp .LtE (.var 8) (.cst (.int 0)))
 (.ifs (.cmp .GtE (.var 9) (.cst (.int 0)))
 (.asg 11 (.call "mpf_mul" (.cons (.var 3) (.cons (.var 6) (.cons (.var 2) (.cons (.glob "round_floor") .nil)))))
 (.asg 12 (.call "mpf_mul" (.cons (.var 4) (.cons (.var 5) (.cons (.var 2) (.cons (.glob "round_ceiling") .nil)))))
 (.ifs (.cmp .Eq (.var 11) (.glob "fnan"))
 (.asg 11 (.glob "fninf")
 .done)
 .done
 (.ifs (.cmp .Eq (.var 12) (.glob "fnan"))
 (.asg 12 (.glob "fzero")
 .done)
 .done
 .done))))
 (.ifs (.cmp .LtE (.var 10) (.cst (.int 0)))
 (.asg 11 (.call "mpf_mul" (.cons (.var 4) (.cons (.var 6) (.cons (.var 2) (.cons (.glob "round_floor") .nil)))))
 (.asg 12 (.call "mpf_mul" (.cons (.var 3) (.cons (.var 5) (.cons (.var 2) (.cons (.glob "round_ceiling") .nil)))))
 (.ifs (.cmp .Eq (.var 11) (.glob "fnan"))
 (.asg 11 (.glob "fzero")
 .done)
 .done
 (.ifs (.cmp .Eq (.var 12) (.glob "fnan"))
 (.asg 12 (.glob "finf")
 .done)
 .done
 .done))))
 (.asg 11 (.call "mpf_mul" (.cons (.var 3) (.cons (.var 6) (.cons (.var 2) (.cons (.glob "round_floor") .nil)))))
 (.asg 12 (.call "mpf_mul" (.cons (.var 3) (.cons (.var 5) (.cons (.var 2) (.cons (.glob "round_ceiling") .nil)))))
 (.ifs (.cmp .Eq (.var 11) (.glob "fnan"))
 (.asg 11 (.glob "fninf")
 .done)
 .done
 (.ifs (.cmp .Eq (.var 12) (.glob "fnan"))
 (.asg 12 (.glob "finf")
 .done)
 .done
 .done))))
 .done)
 .done)
 (.asg 13 (.list (.cons (.call "mpf_mul" (.cons (.var 3) (.cons (.var 5) .nil))) (.cons (.call "mpf_mul" (.cons (.var 3) (.cons (.var 6) .nil))) (.cons (.call "mpf_mul" (.cons (.var 4) (.cons (.var 5) .nil))) (.cons (.call "mpf_mul" (.cons (.var 4) (.cons (.var 6) .nil))) .nil)))))
 (.ifs (.cmp .In (.glob "fnan") (.var 13))
 (.unpR [11, 12] (.tup (.cons (.glob "fninf") (.cons (.glob "finf") .nil)))
 .done)
 (.unp [11, 12] (.call "mpf_min_max" (.cons (.var 13) .nil))
 (.asg 11 (.call "mpf_pos" (.cons (.var 11) (.cons (.var 2) (.cons (.glob "round_floor") .nil))))
 (.asg 12 (.call "mpf_pos" (.cons (.var 12) (.cons (.var 2) (.cons (.glob "round_ceiling") .nil))))
 .done)))
 .done))
 .done)
 (.ret (.tup (.cons (.var 11) (.cons (.var 12) .nil)))))))))))))

def c_mpi_square : PS :=
 (.unp [2, 3] (.var 0)
 (.ifs (.call "mpf_ge" (.cons (.var 2) (.cons (.glob "fzero") .nil)))
 (.asg 4 (.call "mpf_mul" (.cons (.var 2) (.cons (.var 2) (.cons (.var 1) (.cons (.glob "round_floor") .nil)))))
 (.asg 5 (.call "mpf_mul" (.cons (.var 3) (.cons (.var 3) (.cons (.var 1) (.cons (.glob "round_ceiling") .nil)))))
 .done))
 (.ifs (.call "mpf_le" (.cons (.var 3) (.cons (.glob "fzero") .nil)))
 (.asg 4 (.call "mpf_mul" (.cons (.var 3) (.cons (.var 3) (.cons (.var 1) (.cons (.glob "round_floor") .nil)))))
 (.asg 5 (.call "mpf_mul" (.cons (.var 2) (.cons (.var 2) (.cons (.var 1) (.cons (.glob "round_ceiling") .nil)))))
 .done))
 (.asg 2 (.call "mpf_neg" (.cons (.var 2) .nil))
 (.unp [2, 3] (.call "mpf_min_max" (.cons (.list (.cons (.var 2) (.cons (.var 3) .nil))) .nil))
 (.asg 4 (.glob "fzero")
 (.asg 5 (.call "mpf_mul" (.cons (.var 3) (.cons (.var 3) (.cons (.var 1) (.cons (.glob "round_ceiling") .nil)))))
 .done))))
 .done)
 (.ret (.tup (.cons (.var 4) (.cons (.var 5) .nil))))))

def c_mpi_div : PS :=
 (.unp [3, 4] (.var 0)
 (.unp [5, 6] (.var 1)
 (.asg 7 (.call "mpf_sign" (.cons (.var 3) .nil))
 (.asg 8 (.call "mpf_sign" (.cons (.var 4) .nil))
 (.asg 9 (.call "mpf_sign" (.cons (.var 5) .nil))
 (.asg 10 (.call "mpf_sign" (.cons (.var 6) .nil))
 (.ifs (.cmp2 .Eq .Eq (.var 7) (.var 8) (.cst (.int 0)))
 (.ifs (.or (.and (.cmp .Lt (.var 9) (.cst (.int 0))) (.cmp .Gt (.var 10) (.cst (.int 0)))) (.or (.cmp .Eq (.var 9) (.cst (.int 0))) (.cmp .Eq (.var 10) (.cst (.int 0)))))
 (.ret (.tup (.cons (.glob "fninf") (.cons (.glob "finf") .nil))))
 .done
 (.ret (.tup (.cons (.glob "fzero") (.cons (.glob "fzero") .nil)))))
 .done
 (.ifs (.and (.cmp .Lt (.var 9) (.cst (.int 0))) (.cmp .Gt (.var 10) (.cst (.int 0))))
 (.ret (.tup (.cons (.glob "fninf") (.cons (.glob "finf") .nil))))
 .done
 (.ifs (.cmp .Lt (.var 9) (.cst (.int 0)))
 (.ret (.call "mpi_div" (.cons (.call "mpi_neg" (.cons (.var 0) .nil)) (.cons (.call "mpi_neg" (.cons (.var 1) .nil)) (.cons (.var 2) .nil)))))
 .done
 (.ifs (.cmp .Eq (.var 9) (.cst (.int 0)))
 (.ifs (.and (.cmp .Lt (.var 7) (.cst (.int 0))) (.cmp .Gt (.var 8) (.cst (.int 0))))
 (.ret (.tup (.cons (.glob "fninf") (.cons (.glob "finf") .nil))))
 .done
 (.ifs (.cmp .Eq (.var 9) (.var 10))
 (.ret (.tup (.cons (.glob "fninf") (.cons (.glob "finf") .nil))))
 .done
 (.ifs (.cmp .GtE (.var 7) (.cst (.int 0)))
 (.asg 11 (.call "mpf_div" (.cons (.var 3) (.cons (.var 6) (.cons (.var 2) (.cons (.glob "round_floor") .nil)))))
 (.asg 12 (.glob "finf")
 .done))
 .done
 (.ifs (.cmp .LtE (.var 8) (.cst (.int 0)))
 (.asg 11 (.glob "fninf")
 (.asg 12 (.call "mpf_div" (.cons (.var 4) (.cons (.var 6) (.cons (.var 2) (.cons (.glob "round_ceiling") .nil)))))
 .done))
 .done
 .done))))
 (.ifs (.cmp .GtE (.var 7) (.cst (.int 0)))
 (.asg 11 (.call "mpf_div" (.cons (.var 3) (.cons (.var 6) (.cons (.var 2) (.cons (.glob "round_floor") .nil)))))
 (.asg 12 (.call "mpf_div" (.cons (.var 4) (.cons (.var 5) (.cons (.var 2) (.cons (.glob "round_ceiling") .nil)))))
 (.ifs (.cmp .Eq (.var 11) (.glob "fnan"))
 (.asg 11 (.glob "fzero")
 .done)
 .done
 (.ifs (.cmp .Eq (.var 12) (.glob "fnan"))
 (.asg 12 (.glob "finf")
 .done)
 .done
 .done))))
 (.ifs (.cmp .LtE (.var 8) (.cst (.int 0)))
 (.asg 11 (.call "mpf_div" (.cons (.var 3) (.cons (.var 5) (.cons (.var 2) (.cons (.glob "round_floor") .nil)))))
 (.asg 12 (.call "mpf_div" (.cons (.var 4) (.cons (.var 6) (.cons (.var 2) (.cons (.glob "round_ceiling") .nil)))))
 (.ifs (.cmp .Eq (.var 11) (.glob "fnan"))
 (.asg 11 (.glob "fninf")
 .done)
 .done
 (.ifs (.cmp .Eq (.var 12) (.glob "fnan"))
 (.asg 12 (.glob "fzero")
 .done)
 .done
 .done))))
 (.asg 11 (.call "mpf_div" (.cons (.var 3) (.cons (.var 5) (.cons (.var 2) (.cons (.glob "round_floor") .nil)))))
 (.asg 12 (.call "mpf_div" (.cons (.var 4) (.cons (.var 5) (.cons (.var 2) (.cons (.glob "round_ceiling") .nil)))))
 (.ifs (.cmp .Eq (.var 11) (.glob "fnan"))
 (.asg 11 (.glob "fninf")
 .done)
 .done
 (.ifs (.cmp .Eq (.var 12) (.glob "fnan"))
 (.asg 12 (.glob "finf")
 .done)
 .done
 .done))))
 .done)
 .done)
 (.ret (.tup (.cons (.var 11) (.cons (.var 12) .nil))))))))))))))

def c_mpi_pow_int : PS :=
 (.unp [3, 4] (.var 0)
 (.ifs (.cmp .Lt (.var 1) (.cst (.int 0)))
 (.ret (.call "mpi_div" (.cons (.tup (.cons (.glob "fone") (.cons (.glob "fone") .nil))) (.cons (.call "mpi_pow_int" (.cons (.var 0) (.cons (.neg (.var 1)) (.cons (.bin .Add (.var 2) (.cst (.int 20))) .nil)))) (.cons (.var 2) .nil)))))
 .done
 (.ifs (.cmp .Eq (.var 1) (.cst (.int 0)))
 (.ret (.tup (.cons (.glob "fone") (.cons (.glob "fone") .nil))))
 .done
 (.ifs (.cmp .Eq (.var 1) (.cst (.int 1)))
 (.ret (.var 0))
 .done
 (.ifs (.cmp .Eq (.var 1) (.cst (.int 2)))
 (.ret (.call "mpi_square" (.cons (.var 0) (.cons (.var 2) .nil))))
 .done
 (.ifs (.bin .BitAnd (.var 1) (.cst (.int 1)))
 (.asg 5 (.call "mpf_pow_int" (.cons (.var 3) (.cons (.var 1) (.cons (.var 2) (.cons (.glob "round_floor") .nil)))))
 (.asg 6 (.call "mpf_pow_int" (.cons (.var 4) (.cons (.var 1) (.cons (.var 2) (.cons (.glob "round_ceiling") .nil)))))
 .done))
 (.asg 7 (.call "mpf_sign" (.cons (.var 3) .nil))
 (.asg 8 (.call "mpf_sign" (.cons (.var 4) .nil))
 (.ifs (.cmp .GtE (.var 7) (.cst (.int 0)))
 (.asg 5 (.call "mpf_pow_int" (.cons (.var 3) (.cons (.var 1) (.cons (.var 2) (.cons (.glob "round_floor") .nil)))))
 (.asg 6 (.call "mpf_pow_int" (.cons (.var 4) (.cons (.var 1) (.cons (.var 2) (.cons (.glob "round_ceiling") .nil)))))
 .done))
 (.ifs (.cmp .LtE (.var 8) (.cst (.int 0)))
 (.asg 5 (.call "mpf_pow_int" (.cons (.var 4) (.cons (.var 1) (.cons (.var 2) (.cons (.glob "round_floor") .nil)))))
 (.asg 6 (.call "mpf_pow_int" (.cons (.var 3) (.cons (.var 1) (.cons (.var 2) (.cons (.glob "round_ceiling") .nil)))))
 .done))
 (.asg 5 (.glob "fzero")
 (.asg 3 (.call "mpf_neg" (.cons (.var 3) .nil))
 (.ifs (.call "mpf_ge" (.cons (.var 3) (.cons (.var 4) .nil)))
 (.asg 6 (.call "mpf_pow_int" (.cons (.var 3) (.cons (.var 1) (.cons (.var 2) (.cons (.glob "round_ceiling") .nil)))))
 .done)
 (.asg 6 (.call "mpf_pow_int" (.cons (.var 4) (.cons (.var 1) (.cons (.var 2) (.cons (.glob "round_ceiling") .nil)))))
 .done)
 .done)))
 .done)
 .done)))
 (.ret (.tup (.cons (.var 5) (.cons (.var 6) .nil))))))))))

def c_law_number : PS :=
 (.ret (.ite (.cmp .Lt (.var 1) (.len (.var 0))) (.sub (.var 0) (.var 1)) (.bin .Add (.bin .Mult (.cst (.int 41)) (.var 1)) (.cst (.int 17)))))

def c_law_drawn : PS :=
 (.unpR [2, 3] (.tup (.cons (.bin .Sub (.bin .Mod (.call "_law_number" (.cons (.var 0) (.cons (.var 1) .nil))) (.cst (.int 4095))) (.cst (.int 2047))) (.cons (.bin .Sub (.bin .Mod (.call "_law_number" (.cons (.var 0) (.cons (.bin .Add (.var 1) (.cst (.int 1))) .nil))) (.cst (.int 25))) (.cst (.int 12))) .nil)))
 (.ifs (.cmp .Eq (.bin .Mod (.call "_law_number" (.cons (.var 0) (.cons (.bin .Add (.var 1) (.cst (.int 2))) .nil))) (.cst (.int 3))) (.cst (.int 0)))
 (.asg 2 (.bin .Sub (.bin .Mod (.var 2) (.cst (.int 3))) (.cst (.int 1)))
 .done)
 .done
 (.ret (.ite (.cmp .GtE (.var 3) (.cst (.int 0))) (.tup (.cons (.bin .Mult (.var 2) (.bin .Pow (.cst (.int 2)) (.var 3))) (.cons (.cst (.int 1)) .nil))) (.tup (.cons (.var 2) (.cons (.bin .Pow (.cst (.int 2)) (.neg (.var 3))) .nil)))))))

def c_law_is_less : PS :=
 (.ret (.cmp .Lt (.bin .Mult (.sub (.var 0) (.cst (.int 0))) (.sub (.var 1) (.cst (.int 1)))) (.bin .Mult (.sub (.var 1) (.cst (.int 0))) (.sub (.var 0) (.cst (.int 1))))))

def c_law_sorted : PS :=
 (.unpR [1, 2] (.tup (.cons (.sub (.var 0) (.cst (.int 0))) (.cons (.sub (.var 0) (.cst (.int 0))) .nil)))
 (.fors 3 (.drop (.var 0) 1)
 (.unpR [1, 2] (.tup (.cons (.ite (.call "_law_is_less" (.cons (.var 3) (.cons (.var 1) .nil))) (.var 3) (.var 1)) (.cons (.ite (.call "_law_is_less" (.cons (.var 2) (.cons (.var 3) .nil))) (.var 3) (.var 2)) .nil)))
 .done)
 (.ret (.tup (.cons (.var 1) (.cons (.var 2) .nil))))))

def c_law_told : PS :=
 (.ifs (.cmp .Eq (.var 0) (.cst (.int 0)))
 (.ret (.tup (.cons (.cst (.int 0)) (.cons (.cst (.int 0)) (.cons (.cst (.int 0)) (.cons (.cst (.int 0)) .nil))))))
 .done
 (.unpR [2, 3] (.tup (.cons (.abs (.var 0)) (.cons (.ite (.cmp .Lt (.var 0) (.cst (.int 0))) (.cst (.int 1)) (.cst (.int 0))) .nil)))
 (.whl (.cmp .Eq (.bin .Mod (.var 2) (.cst (.int 2))) (.cst (.int 0)))
 (.unpR [2, 1] (.tup (.cons (.bin .FloorDiv (.var 2) (.cst (.int 2))) (.cons (.bin .Add (.var 1) (.cst (.int 1))) .nil)))
 .done)
 (.ret (.tup (.cons (.var 3) (.cons (.var 2) (.cons (.var 1) (.cons (.bitlen (.var 2)) .nil)))))))))

def c_law_end : PS :=
 (.unp [3, 4] (.var 0)
 (.ifs (.cmp .Eq (.var 1) (.cst (.int 0)))
 (.ret (.call "_law_told" (.cons (.var 3) (.cons (.bin .Sub (.cst (.int 1)) (.bitlen (.var 4))) .nil))))
 .done
 (.unpR [5, 6] (.tup (.cons (.abs (.var 3)) (.cons (.cmp .Eq (.var 2) (.cmp .Gt (.var 3) (.cst (.int 0)))) .nil)))
 (.asg 7 (.bin .Sub (.bin .Sub (.bitlen (.var 5)) (.bitlen (.var 4))) (.var 1))
 (.ifs (.ite (.cmp .GtE (.bin .Add (.var 7) (.var 1)) (.cst (.int 0))) (.cmp .GtE (.var 5) (.bin .Mult (.var 4) (.bin .Pow (.cst (.int 2)) (.bin .Add (.var 7) (.var 1))))) (.cmp .GtE (.bin .Mult (.var 5) (.bin .Pow (.cst (.int 2)) (.neg (.bin .Add (.var 7) (.var 1))))) (.var 4)))
 (.asg 7 (.bin .Add (.var 7) (.cst (.int 1)))
 .done)
 .done
 (.unp [8, 9] (.ite (.cmp .Lt (.var 7) (.cst (.int 0))) (.tup (.cons (.bin .Mult (.var 5) (.bin .Pow (.cst (.int 2)) (.neg (.var 7)))) (.cons (.var 4) .nil))) (.tup (.cons (.var 5) (.cons (.bin .Mult (.var 4) (.bin .Pow (.cst (.int 2)) (.var 7))) .nil))))
 (.asg 10 (.bin .Add (.bin .FloorDiv (.var 8) (.var 9)) (.ite (.and (.var 6) (.cmp .Gt (.bin .Mod (.var 8) (.var 9)) (.cst (.int 0)))) (.cst (.int 1)) (.cst (.int 0))))
 (.ret (.call "_law_told" (.cons (.ite (.cmp .Lt (.var 3) (.cst (.int 0))) (.neg (.var 10)) (.var 10)) (.cons (.var 7) .nil)))))))))))

def c_law_outwards : PS :=
 (.unp [2, 3] (.call "_law_sorted" (.cons (.var 0) .nil))
 (.ret (.tup (.cons (.call "_law_end" (.cons (.var 2) (.cons (.var 1) (.cons (.cst (.bool false)) .nil)))) (.cons (.call "_law_end" (.cons (.var 3) (.cons (.var 1) (.cons (.cst (.bool true)) .nil)))) .nil)))))

def c_law_times : PS :=
 (.ret (.tup (.cons (.bin .Mult (.sub (.var 0) (.cst (.int 0))) (.sub (.var 1) (.cst (.int 0)))) (.cons (.bin .Mult (.sub (.var 0) (.cst (.int 1))) (.sub (.var 1) (.cst (.int 1)))) .nil))))

def c_law_by : PS :=
 (.asg 2 (.ite (.cmp .Gt (.sub (.var 1) (.cst (.int 0))) (.cst (.int 0))) (.cst (.int 1)) (.neg (.cst (.int 1))))
 (.ret (.tup (.cons (.bin .Mult (.bin .Mult (.sub (.var 0) (.cst (.int 0))) (.sub (.var 1) (.cst (.int 1)))) (.var 2)) (.cons (.bin .Mult (.bin .Mult (.sub (.var 0) (.cst (.int 1))) (.sub (.var 1) (.cst (.int 0)))) (.var 2)) .nil)))))

def c_law_plus : PS :=
 (.ret (.tup (.cons (.bin .Add (.bin .Mult (.sub (.var 0) (.cst (.int 0))) (.sub (.var 1) (.cst (.int 1)))) (.bin .Mult (.bin .Mult (.var 2) (.sub (.var 1) (.cst (.int 0)))) (.sub (.var 0) (.cst (.int 1))))) (.cons (.bin .Mult (.sub (.var 0) (.cst (.int 1))) (.sub (.var 1) (.cst (.int 1)))) .nil))))

def c_law_quotient : PS :=
 (.ifs (.cmp .Gt (.bin .Mult (.sub (.sub (.var 1) (.cst (.int 0))) (.cst (.int 0))) (.sub (.sub (.var 1) (.cst (.int 1))) (.cst (.int 0)))) (.cst (.int 0)))
 (.ret (.call "_law_quotients" (.cons (.var 0) (.cons (.var 1) (.cons (.var 2) .nil)))))
 .done
 (.ifs (.or (.cmp .Lt (.bin .Mult (.sub (.sub (.var 0) (.cst (.int 0))) (.cst (.int 0))) (.sub (.sub (.var 0) (.cst (.int 1))) (.cst (.int 0)))) (.cst (.int 0))) (.or (.cmp .Lt (.bin .Mult (.sub (.sub (.var 1) (.cst (.int 0))) (.cst (.int 0))) (.sub (.sub (.var 1) (.cst (.int 1))) (.cst (.int 0)))) (.cst (.int 0))) (.or (.cmp .Eq (.sub (.sub (.var 1) (.cst (.int 0))) (.cst (.int 0))) (.sub (.sub (.var 1) (.cst (.int 1))) (.cst (.int 0)))) (.cmp2 .Eq .Eq (.sub (.sub (.var 0) (.cst (.int 0))) (.cst (.int 0))) (.sub (.sub (.var 0) (.cst (.int 1))) (.cst (.int 0))) (.cst (.int 0))))))
 (.ret (.tup (.cons (.glob "fninf") (.cons (.glob "finf") .nil))))
 .done
 (.asg 3 (.list (.cons (.ite (.cmp .Eq (.sub (.sub (.var 1) (.cst (.int 1))) (.cst (.int 0))) (.cst (.int 0))) (.sub (.var 1) (.cst (.int 0))) (.sub (.var 1) (.cst (.int 1)))) .nil))
 (.unp [4, 5] (.call "_law_quotients" (.cons (.var 0) (.cons (.var 3) (.cons (.var 2) .nil))))
 (.asg 6 (.cmp .Gt (.bin .Mult (.bin .Add (.sub (.sub (.var 0) (.cst (.int 0))) (.cst (.int 0))) (.sub (.sub (.var 0) (.cst (.int 1))) (.cst (.int 0)))) (.sub (.sub (.var 3) (.cst (.int 0))) (.cst (.int 0)))) (.cst (.int 0)))
 (.ret (.ite (.var 6) (.tup (.cons (.var 4) (.cons (.glob "finf") .nil))) (.tup (.cons (.glob "fninf") (.cons (.var 5) .nil))))))))))

def c_law_quotients : PS :=
 (.ret (.call "_law_outwards" (.cons (.comp2 [none, none, none, none, some 1] 1 2 (.var 0) (.var 4) (.call "_law_by" (.cons (.var 1) (.cons (.var 2) .nil)))) (.cons (.var 2) .nil))))

def c_law_power : PS :=
 (.ret (.tup (.cons (.bin .Pow (.sub (.var 0) (.cst (.int 0))) (.var 1)) (.cons (.bin .Pow (.sub (.var 0) (.cst (.int 1))) (.var 1)) .nil))))

def c_law_powers : PS :=
 (.ifs (.cmp .Lt (.var 1) (.cst (.int 0)))
 (.asg 3 (.comp [none, none, none, some 1] [1] false (.var 0) (.call "_law_power" (.cons (.var 1) (.cons (.neg (.var 3)) .nil))))
 (.ifs (.and (.cmp .Eq (.bin .Mod (.var 1) (.cst (.int 2))) (.cst (.int 0))) (.cmp .Lt (.bin .Mult (.sub (.sub (.var 0) (.cst (.int 0))) (.cst (.int 0))) (.sub (.sub (.var 0) (.cst (.int 1))) (.cst (.int 0)))) (.cst (.int 0))))
 (.asg 3 (.list (.cons (.tup (.cons (.cst (.int 0)) (.cons (.cst (.int 1)) .nil))) (.cons (.sub (.call "_law_sorted" (.cons (.var 3) .nil)) (.cst (.int 1))) .nil)))
 .done)
 .done
 (.ret (.call "_law_quotient" (.cons (.list (.cons (.tup (.cons (.cst (.int 1)) (.cons (.cst (.int 1)) .nil))) (.cons (.tup (.cons (.cst (.int 1)) (.cons (.cst (.int 1)) .nil))) .nil))) (.cons (.call "_law_sorted" (.cons (.var 3) .nil)) (.cons (.var 2) .nil)))))))
 .done
 (.asg 3 (.comp [none, none, none, some 1] [1] false (.var 0) (.call "_law_power" (.cons (.var 1) (.cons (.var 3) .nil))))
 (.ret (.call "_law_outwards" (.cons (.bin .Add (.var 3) (.ite (.and (.cmp .Eq (.bin .Mod (.var 1) (.cst (.int 2))) (.cst (.int 0))) (.and (.cmp .Gt (.var 1) (.cst (.int 0))) (.cmp .Lt (.bin .Mult (.sub (.sub (.var 0) (.cst (.int 0))) (.cst (.int 0))) (.sub (.sub (.var 0) (.cst (.int 1))) (.cst (.int 0)))) (.cst (.int 0))))) (.list (.cons (.tup (.cons (.cst (.int 0)) (.cons (.cst (.int 1)) .nil))) .nil)) (.list .nil))) (.cons (.var 2) .nil))))))

def c_law_made : PS :=
 (.ret (.tupOf (.comp [none, none, none, none] [1, 2] true (.var 0) (.call "from_man_exp" (.cons (.var 1) (.cons (.bin .Sub (.cst (.int 1)) (.bitlen (.var 2))) .nil))))))

def c_law : PS :=
 (.asg 0 (.take (.var 0) 24)
 (.asg 1 (.call "_law_sorted" (.cons (.list (.cons (.call "_law_drawn" (.cons (.var 0) (.cons (.cst (.int 0)) .nil))) (.cons (.call "_law_drawn" (.cons (.var 0) (.cons (.cst (.int 3)) .nil))) .nil))) .nil))
 (.asg 2 (.call "_law_sorted" (.cons (.list (.cons (.call "_law_drawn" (.cons (.var 0) (.cons (.cst (.int 6)) .nil))) (.cons (.call "_law_drawn" (.cons (.var 0) (.cons (.cst (.int 9)) .nil))) .nil))) .nil))
 (.ifs (.cmp .Eq (.bin .Mod (.call "_law_number" (.cons (.var 0) (.cons (.cst (.int 12)) .nil))) (.cst (.int 7))) (.cst (.int 0)))
 (.asg 2 (.tup (.cons (.sub (.var 2) (.cst (.int 0))) (.cons (.sub (.var 2) (.cst (.int 0))) .nil)))
 .done)
 .done
 (.unpR [3, 4] (.tup (.cons (.bin .Mod (.call "_law_number" (.cons (.var 0) (.cons (.cst (.int 13)) .nil))) (.cst (.int 41))) (.cons (.bin .Add (.cst (.int 1)) (.bin .Mod (.call "_law_number" (.cons (.var 0) (.cons (.cst (.int 14)) .nil))) (.cst (.int 40)))) .nil)))
 (.unpR [5, 6] (.tup (.cons (.call "_law_made" (.cons (.var 1) .nil)) (.cons (.call "_law_made" (.cons (.var 2) .nil)) .nil)))
 (.ifs (.cmp .NotEq (.call "mpi_add" (.cons (.var 5) (.cons (.var 6) (.cons (.var 3) .nil)))) (.call "_law_outwards" (.cons (.comp [none, none, none, some 1, some 2] [1] false (.tup (.cons (.cst (.int 0)) (.cons (.cst (.int 1)) .nil))) (.call "_law_plus" (.cons (.sub (.var 3) (.var 1)) (.cons (.sub (.var 4) (.var 1)) (.cons (.cst (.int 1)) .nil))))) (.cons (.var 3) .nil))))
 (.ret (.cst (.bool false)))
 .done
 (.ifs (.cmp .NotEq (.call "mpi_sub" (.cons (.var 5) (.cons (.var 6) (.cons (.var 3) .nil)))) (.call "_law_outwards" (.cons (.comp [none, none, none, some 1, some 2] [1] false (.tup (.cons (.cst (.int 0)) (.cons (.cst (.int 1)) .nil))) (.call "_law_plus" (.cons (.sub (.var 3) (.var 1)) (.cons (.sub (.var 4) (.bin .Sub (.cst (.int 1)) (.var 1))) (.cons (.neg (.cst (.int 1))) .nil))))) (.cons (.var 3) .nil))))
 (.ret (.cst (.bool false)))
 .done
 (.ifs (.cmp .NotEq (.call "mpi_mul" (.cons (.var 5) (.cons (.var 6) (.cons (.var 3) .nil)))) (.call "_law_outwards" (.cons (.comp2 [none, none, none, none, some 2] 1 2 (.var 1) (.var 4) (.call "_law_times" (.cons (.var 1) (.cons (.var 2) .nil)))) (.cons (.var 3) .nil))))
 (.ret (.cst (.bool false)))
 .done
 (.ifs (.or (.cmp .NotEq (.call "mpi_div" (.cons (.var 5) (.cons (.var 6) (.cons (.var 4) .nil)))) (.call "_law_quotient" (.cons (.var 1) (.cons (.var 2) (.cons (.var 4) .nil))))) (.cmp .NotEq (.call "mpi_square" (.cons (.var 5) (.cons (.var 3) .nil))) (.call "_law_powers" (.cons (.var 1) (.cons (.cst (.int 2)) (.cons (.var 3) .nil))))))
 (.ret (.cst (.bool false)))
 .done
 (.asg 7 (.bin .Add (.comp [none, none, none, none] [1, 2] true (.var 1) (.tup (.cons (.abs (.var 1)) (.cons (.var 2) .nil)))) (.ite (.cmp .Lt (.bin .Mult (.sub (.sub (.var 1) (.cst (.int 0))) (.cst (.int 0))) (.sub (.sub (.var 1) (.cst (.int 1))) (.cst (.int 0)))) (.cst (.int 0))) (.list (.cons (.tup (.cons (.cst (.int 0)) (.cons (.cst (.int 1)) .nil))) .nil)) (.list .nil)))
 (.ifs (.or (.cmp .NotEq (.call "mpi_abs" (.cons (.var 5) (.cons (.var 3) .nil))) (.call "_law_outwards" (.cons (.var 7) (.cons (.var 3) .nil)))) (.cmp .NotEq (.call "mpi_neg" (.cons (.var 6) (.cons (.var 3) .nil))) (.call "_law_outwards" (.cons (.comp [none, none, none] [1, 2] true (.var 2) (.tup (.cons (.neg (.var 1)) (.cons (.var 2) .nil)))) (.cons (.var 3) .nil)))))
 (.ret (.cst (.bool false)))
 .done
 (.asg 8 (.bin .Sub (.bin .Mod (.call "_law_number" (.cons (.var 0) (.cons (.cst (.int 15)) .nil))) (.cst (.int 10))) (.cst (.int 3)))
 (.asg 9 (.ite (.cmp .Eq (.var 8) (.cst (.int 1))) (.var 5) (.call "_law_powers" (.cons (.var 1) (.cons (.var 8) (.cons (.bin .Add (.var 4) (.cst (.int 20))) .nil)))))
 (.ret (.cmp .Eq (.call "mpi_pow_int" (.cons (.var 5) (.cons (.var 8) (.cons (.bin .Add (.var 4) (.cst (.int 20))) .nil)))) (.var 9)))))))))))))))))

structure Prog (c : Cx) : Prop where
  is_trailing : FnIs c "trailing"
  t_trailing1 : ∀ (n : Nat) (x0 d : D), qS c n c_trailing [some x0] (fun fl => fl = .rt d) → Tell c (n + 1) "trailing" [x0] d
  is_normalize0 : FnIs c "_normalize"
  t_normalize06 : ∀ (n : Nat) (x0 x1 x2 x3 x4 x5 d : D), qS c n c_normalize0 [some x0, some x1, some x2, some x3, some x4, some x5, none, none, none, none, none, none, none] (fun fl => fl = .rt d) → Tell c (n + 1) "_normalize" [x0, x1, x2, x3, x4, x5] d
  is_normalize : FnIs c "normalize"
  t_normalize6 : ∀ (n : Nat) (x0 x1 x2 x3 x4 x5 d : D), qS c n c_normalize [some x0, some x1, some x2, some x3, some x4, some x5, none] (fun fl => fl = .rt d) → Tell c (n + 1) "normalize" [x0, x1, x2, x3, x4, x5] d
  is_from_man_exp : FnIs c "from_man_exp"
  t_from_man_exp2 : ∀ (n : Nat) (x0 x1 d : D), qS c n c_from_man_exp [some x0, some x1, some (.int 0), some (.str "d"), none, none, none, none, none, none, none, none, none] (fun fl => fl = .rt d) → Tell c (n + 1) "from_man_exp" [x0, x1] d
  is_mpf_cmp : FnIs c "mpf_cmp"
  t_mpf_cmp2 : ∀ (n : Nat) (x0 x1 d : D), qS c n c_mpf_cmp [some x0, some x1, none, none, none, none, none, none, none, none, none, none, none, none, none, none, none, none, none, none] (fun fl => fl = .rt d) → Tell c (n + 1) "mpf_cmp" [x0, x1] d
  is_mpf_lt : FnIs c "mpf_lt"
  t_mpf_lt2 : ∀ (n : Nat) (x0 x1 d : D), qS c n c_mpf_lt [some x0, some x1, none, none] (fun fl => fl = .rt d) → Tell c (n + 1) "mpf_lt" [x0, x1] d
  is_mpf_le : FnIs c "mpf_le"
  t_mpf_le2 : ∀ (n : Nat) (x0 x1 d : D), qS c n c_mpf_le [some x0, some x1, none, none] (fun fl => fl = .rt d) → Tell c (n + 1) "mpf_le" [x0, x1] d
  is_mpf_gt : FnIs c "mpf_gt"
  t_mpf_gt2 : ∀ (n : Nat) (x0 x1 d : D), qS c n c_mpf_gt [some x0, some x1, none, none] (fun fl => fl = .rt d) → Tell c (n + 1) "mpf_gt" [x0, x1] d
  is_mpf_ge : FnIs c "mpf_ge"
  t_mpf_ge2 : ∀ (n : Nat) (x0 x1 d : D), qS c n c_mpf_ge [some x0, some x1, none, none] (fun fl => fl = .rt d) → Tell c (n + 1) "mpf_ge" [x0, x1] d
  is_mpf_min_max : FnIs c "mpf_min_max"
  t_mpf_min_max1 : ∀ (n : Nat) (x0 d : D), qS c n c_mpf_min_max [some x0, none, none, none, none, none] (fun fl => fl = .rt d) → Tell c (n + 1) "mpf_min_max" [x0] d
  is_mpf_pos : FnIs c "mpf_pos"
  t_mpf_pos3 : ∀ (n : Nat) (x0 x1 x2 d : D), qS c n c_mpf_pos [some x0, some x1, some x2, none, none, none, none, none] (fun fl => fl = .rt d) → Tell c (n + 1) "mpf_pos" [x0, x1, x2] d
  is_mpf_neg : FnIs c "mpf_neg"
  t_mpf_neg1 : ∀ (n : Nat) (x0 d : D), qS c n c_mpf_neg [some x0, some (.int 0), some (.str "d"), none, none, none, none, none, none, none] (fun fl => fl = .rt d) → Tell c (n + 1) "mpf_neg" [x0] d
  t_mpf_neg3 : ∀ (n : Nat) (x0 x1 x2 d : D), qS c n c_mpf_neg [some x0, some x1, some x2, none, none, none, none, none, none, none] (fun fl => fl = .rt d) → Tell c (n + 1) "mpf_neg" [x0, x1, x2] d
  is_mpf_sign : FnIs c "mpf_sign"
  t_mpf_sign1 : ∀ (n : Nat) (x0 d : D), qS c n c_mpf_sign [some x0, none, none, none, none, none, none] (fun fl => fl = .rt d) → Tell c (n + 1) "mpf_sign" [x0] d
  is_mpf_add : FnIs c "mpf_add"
  t_mpf_add4 : ∀ (n : Nat) (x0 x1 x2 x3 d : D), qS c n c_mpf_add [some x0, some x1, some x2, some x3, some (.int 0), none, none, none, none, none, none, none, none, none, none, none, none, none, none, none] (fun fl => fl = .rt d) → Tell c (n + 1) "mpf_add" [x0, x1, x2, x3] d
  t_mpf_add5 : ∀ (n : Nat) (x0 x1 x2 x3 x4 d : D), qS c n c_mpf_add [some x0, some x1, some x2, some x3, some x4, none, none, none, none, none, none, none, none, none, none, none, none, none, none, none] (fun fl => fl = .rt d) → Tell c (n + 1) "mpf_add" [x0, x1, x2, x3, x4] d
  is_mpf_sub : FnIs c "mpf_sub"
  t_mpf_sub4 : ∀ (n : Nat) (x0 x1 x2 x3 d : D), qS c n c_mpf_sub [some x0, some x1, some x2, some x3, none] (fun fl => fl = .rt d) → Tell c (n + 1) "mpf_sub" [x0, x1, x2, x3] d
  is_mpf_mul : FnIs c "mpf_mul"
  t_mpf_mul2 : ∀ (n : Nat) (x0 x1 d : D), qS c n c_mpf_mul [some x0, some x1, some (.int 0), some (.str "d"), none, none, none, none, none, none, none, none, none, none, none, none, none, none, none, none, none, none, none] (fun fl => fl = .rt d) → Tell c (n + 1) "mpf_mul" [x0, x1] d
  t_mpf_mul4 : ∀ (n : Nat) (x0 x1 x2 x3 d : D), qS c n c_mpf_mul [some x0, some x1, some x2, some x3, none, none, none, none, none, none, none, none, none, none, none, none, none, none, none, none, none, none, none] (fun fl => fl = .rt d) → Tell c (n + 1) "mpf_mul" [x0, x1, x2, x3] d
  is_mpf_div : FnIs c "mpf_div"
  t_mpf_div4 : ∀ (n : Nat) (x0 x1 x2 x3 d : D), qS c n c_mpf_div [some x0, some x1, some x2, some x3, none, none, none, none, none, none, none, none, none, none, none, none, none, none, none, none, none, none, none, none, none, none, none, none] (fun fl => fl = .rt d) → Tell c (n + 1) "mpf_div" [x0, x1, x2, x3] d
  is_mpf_pow_int : FnIs c "mpf_pow_int"
  t_mpf_pow_int4 : ∀ (n : Nat) (x0 x1 x2 x3 d : D), qS c n c_mpf_pow_int [some x0, some x1, some x2, some x3, none, none, none, none, none, none, none, none, none, none, none, none, none, none, none, none, none, none, none, none, none, none, none, none, none, none] (fun fl => fl = .rt d) → Tell c (n + 1) "mpf_pow_int" [x0, x1, x2, x3] d
  is_mpi_add : FnIs c "mpi_add"
  t_mpi_add3 : ∀ (n : Nat) (x0 x1 x2 d : D), qS c n c_mpi_add [some x0, some x1, some x2, none, none, none, none, none, none, none, none, none, none, none, none] (fun fl => fl = .rt d) → Tell c (n + 1) "mpi_add" [x0, x1, x2] d
  is_mpi_sub : FnIs c "mpi_sub"
  t_mpi_sub3 : ∀ (n : Nat) (x0 x1 x2 d : D), qS c n c_mpi_sub [some x0, some x1, some x2, none, none, none, none, none, none, none, none, none, none, none, none] (fun fl => fl = .rt d) → Tell c (n + 1) "mpi_sub" [x0, x1, x2] d
  is_mpi_neg : FnIs c "mpi_neg"
  t_mpi_neg1 : ∀ (n : Nat) (x0 d : D), qS c n c_mpi_neg [some x0, some (.int 0), none, none, none, none, none, none, none] (fun fl => fl = .rt d) → Tell c (n + 1) "mpi_neg" [x0] d
  t_mpi_neg2 : ∀ (n : Nat) (x0 x1 d : D), qS c n c_mpi_neg [some x0, some x1, none, none, none, none, none, none, none] (fun fl => fl = .rt d) → Tell c (n + 1) "mpi_neg" [x0, x1] d
  is_mpi_abs : FnIs c "mpi_abs"
  t_mpi_abs2 : ∀ (n : Nat) (x0 x1 d : D), qS c n c_mpi_abs [some x0, some x1, none, none, none, none, none, none, none, none, none, none, none, none, none, none] (fun fl => fl = .rt d) → Tell c (n + 1) "mpi_abs" [x0, x1] d
  is_mpi_mul : FnIs c "mpi_mul"
  t_mpi_mul3 : ∀ (n : Nat) (x0 x1 x2 d : D), qS c n c_mpi_mul [some x0, some x1, some x2, none, none, none, none, none, none, none, none, none, none, none, none, none, none, none, none, none, none, none, none, none] (fun fl => fl = .rt d) → Tell c (n + 1) "mpi_mul" [x0, x1, x2] d
  is_mpi_square : FnIs c "mpi_square"
  t_mpi_square2 : ∀ (n : Nat) (x0 x1 d : D), qS c n c_mpi_square [some x0, some x1, none, none, none, none, none, none, none, none, none, none, none, none] (fun fl => fl = .rt d) → Tell c (n + 1) "mpi_square" [x0, x1] d
  is_mpi_div : FnIs c "mpi_div"
  t_mpi_div3 : ∀ (n : Nat) (x0 x1 x2 d : D), qS c n c_mpi_div [some x0, some x1, some x2, none, none, none, none, none, none, none, none, none, none, none, none, none, none, none, none, none, none, none, none] (fun fl => fl = .rt d) → Tell c (n + 1) "mpi_div" [x0, x1, x2] d
  is_mpi_pow_int : FnIs c "mpi_pow_int"
  t_mpi_pow_int3 : ∀ (n : Nat) (x0 x1 x2 d : D), qS c n c_mpi_pow_int [some x0, some x1, some x2, none, none, none, none, none, none, none, none, none, none, none, none, none, none, none, none, none] (fun fl => fl = .rt d) → Tell c (n + 1) "mpi_pow_int" [x0, x1, x2] d
  is_law_number : FnIs c "_law_number"
  t_law_number2 : ∀ (n : Nat) (x0 x1 d : D), qS c n c_law_number [some x0, some x1, none] (fun fl => fl = .rt d) → Tell c (n + 1) "_law_number" [x0, x1] d
  is_law_drawn : FnIs c "_law_drawn"
  t_law_drawn2 : ∀ (n : Nat) (x0 x1 d : D), qS c n c_law_drawn [some x0, some x1, none, none, none] (fun fl => fl = .rt d) → Tell c (n + 1) "_law_drawn" [x0, x1] d
  is_law_is_less : FnIs c "_law_is_less"
  t_law_is_less2 : ∀ (n : Nat) (x0 x1 d : D), qS c n c_law_is_less [some x0, some x1] (fun fl => fl = .rt d) → Tell c (n + 1) "_law_is_less" [x0, x1] d
  is_law_sorted : FnIs c "_law_sorted"
  t_law_sorted1 : ∀ (n : Nat) (x0 d : D), qS c n c_law_sorted [some x0, none, none, none, none] (fun fl => fl = .rt d) → Tell c (n + 1) "_law_sorted" [x0] d
  is_law_told : FnIs c "_law_told"
  t_law_told2 : ∀ (n : Nat) (x0 x1 d : D), qS c n c_law_told [some x0, some x1, none, none, none] (fun fl => fl = .rt d) → Tell c (n + 1) "_law_told" [x0, x1] d
  is_law_end : FnIs c "_law_end"
  t_law_end3 : ∀ (n : Nat) (x0 x1 x2 d : D), qS c n c_law_end [some x0, some x1, some x2, none, none, none, none, none, none, none, none, none, none] (fun fl => fl = .rt d) → Tell c (n + 1) "_law_end" [x0, x1, x2] d
  is_law_outwards : FnIs c "_law_outwards"
  t_law_outwards2 : ∀ (n : Nat) (x0 x1 d : D), qS c n c_law_outwards [some x0, some x1, none, none, none, none] (fun fl => fl = .rt d) → Tell c (n + 1) "_law_outwards" [x0, x1] d
  is_law_times : FnIs c "_law_times"
  t_law_times2 : ∀ (n : Nat) (x0 x1 d : D), qS c n c_law_times [some x0, some x1] (fun fl => fl = .rt d) → Tell c (n + 1) "_law_times" [x0, x1] d
  is_law_by : FnIs c "_law_by"
  t_law_by2 : ∀ (n : Nat) (x0 x1 d : D), qS c n c_law_by [some x0, some x1, none] (fun fl => fl = .rt d) → Tell c (n + 1) "_law_by" [x0, x1] d
  is_law_plus : FnIs c "_law_plus"
  t_law_plus3 : ∀ (n : Nat) (x0 x1 x2 d : D), qS c n c_law_plus [some x0, some x1, some x2] (fun fl => fl = .rt d) → Tell c (n + 1) "_law_plus" [x0, x1, x2] d
  is_law_quotient : FnIs c "_law_quotient"
  t_law_quotient3 : ∀ (n : Nat) (x0 x1 x2 d : D), qS c n c_law_quotient [some x0, some x1, some x2, none, none, none, none, none, none, none] (fun fl => fl = .rt d) → Tell c (n + 1) "_law_quotient" [x0, x1, x2] d
  is_law_quotients : FnIs c "_law_quotients"
  t_law_quotients3 : ∀ (n : Nat) (x0 x1 x2 d : D), qS c n c_law_quotients [some x0, some x1, some x2, none] (fun fl => fl = .rt d) → Tell c (n + 1) "_law_quotients" [x0, x1, x2] d
  is_law_power : FnIs c "_law_power"
  t_law_power2 : ∀ (n : Nat) (x0 x1 d : D), qS c n c_law_power [some x0, some x1] (fun fl => fl = .rt d) → Tell c (n + 1) "_law_power" [x0, x1] d
  is_law_powers : FnIs c "_law_powers"
  t_law_powers3 : ∀ (n : Nat) (x0 x1 x2 d : D), qS c n c_law_powers [some x0, some x1, some x2, none, none, none, none] (fun fl => fl = .rt d) → Tell c (n + 1) "_law_powers" [x0, x1, x2] d
  is_law_made : FnIs c "_law_made"
  t_law_made1 : ∀ (n : Nat) (x0 d : D), qS c n c_law_made [some x0, none] (fun fl => fl = .rt d) → Tell c (n + 1) "_law_made" [x0] d
  is_law : FnIs c "law"
  t_law1 : ∀ (n : Nat) (x0 d : D), qS c n c_law [some x0, none, none, none, none, none, none, none, none, none, none, none, none, none, none, none, none, none, none, none, none, none, none, none, none] (fun fl => fl = .rt d) → Tell c (n + 1) "law" [x0] d
  g_fzero : GIs c "fzero" (.tup [.int 0, .int 0, .int 0, .int 0])
  g_fone : GIs c "fone" (.tup [.int 0, .int 1, .int 0, .int 1])
  g_fnan : GIs c "fnan" (.tup [.int 0, .int 0, .int (-123), .int (-1)])
  g_finf : GIs c "finf" (.tup [.int 0, .int 0, .int (-456), .int (-2)])
  g_fninf : GIs c "fninf" (.tup [.int 1, .int 0, .int (-789), .int (-3)])
  g_round_floor : GIs c "round_floor" (.str "f")
  g_round_ceiling : GIs c "round_ceiling" (.str "c")
  g_round_nearest : GIs c "round_nearest" (.str "n")
  g_MPZ_ONE : GIs c "MPZ_ONE" (.int 1)
  sd_f : GDs c "shifts_down" "f" (.tup [.int 1, .int 0])
  sd_c : GDs c "shifts_down" "c" (.tup [.int 0, .int 1])
end
section
open PySem PySem.W PySem.Calls PyProof.Rows PySem.SeqAt
def od (n : Nat) : Nat := if n = 0 then 0 else if n % 2 = 0 then od (n / 2) else n
termination_by n
decreasing_by omega
def tz (n : Nat) : Nat := if n = 0 then 0 else if n % 2 = 0 then tz (n / 2) + 1 else 0
termination_by n
decreasing_by omega
def bl (n : Nat) : Nat := if n = 0 then 0 else n.log2 + 1

theorem od_even {n : Nat} (h : n ≠ 0) (e : n % 2 = 0) : od n = od (n / 2) := by rw [od, if_neg h, if_pos e]
theorem od_odd' {n : Nat} (e : n % 2 = 1) : od n = n := by rw [od, if_neg (by omega), if_neg (by omega)]
theorem tz_even {n : Nat} (h : n ≠ 0) (e : n % 2 = 0) : tz n = tz (n / 2) + 1 := by rw [tz, if_neg h, if_pos e]
theorem tz_odd {n : Nat} (e : n % 2 = 1) : tz n = 0 := by rw [tz, if_neg (by omega), if_neg (by omega)]
theorem od_mul_two {n : Nat} (h : n ≠ 0) : od (n * 2) = od n := by rw [od_even (by omega) (by omega)]; congr 1; omega
theorem tz_mul_two {n : Nat} (h : n ≠ 0) : tz (n * 2) = tz n + 1 := by rw [tz_even (by omega) (by omega)]; congr 2; omega
theorem pow_pos' (k : Nat) : 0 < (2 : Nat) ^ k := Nat.pow_pos (by decide)
theorem pow_ne {k : Nat} : (2 : Nat) ^ k ≠ 0 := Nat.ne_of_gt (pow_pos' k)
theorem od_mul {n : Nat} (h : n ≠ 0) : ∀ k, od (n * 2 ^ k) = od n
  | 0 => by simp
  | k + 1 => by rw [Nat.pow_succ, ← Nat.mul_assoc, od_mul_two (Nat.mul_ne_zero h pow_ne), od_mul h k]
theorem tz_mul {n : Nat} (h : n ≠ 0) : ∀ k, tz (n * 2 ^ k) = tz n + k
  | 0 => by simp
  | k + 1 => by rw [Nat.pow_succ, ← Nat.mul_assoc, tz_mul_two (Nat.mul_ne_zero h pow_ne), tz_mul h k]; omega
theorem od_tz : ∀ n : Nat, od n * 2 ^ tz n = n := by
  intro n
  induction n using Nat.strongRecOn with
  | ind n ih =>
    by_cases h0 : n = 0
    · subst h0; rw [od, if_pos rfl]; simp
    · by_cases h2 : n % 2 = 0
      · rw [od_even h0 h2, tz_even h0 h2, Nat.pow_succ, ← Nat.mul_assoc, ih (n / 2) (by omega)]; omega
      · rw [od_odd' (by omega), tz_odd (by omega)]; simp
theorem od_is_odd {n : Nat} (h : n ≠ 0) : od n % 2 = 1 := by
  induction n using Nat.strongRecOn with
  | ind n ih =>
    by_cases h2 : n % 2 = 0
    · rw [od_even h h2]; exact ih (n / 2) (by omega) (by omega)
    · rw [od_odd' (by omega)]; omega
theorem od_pos {n : Nat} (h : n ≠ 0) : 0 < od n := by have := od_is_odd h; omega
theorem od_le (n : Nat) : od n ≤ n := by
  have h := od_tz n
  have := pow_pos' (tz n)
  calc od n = od n * 1 := (Nat.mul_one _).symm
    _ ≤ od n * 2 ^ tz n := Nat.mul_le_mul_left _ this
    _ = n := h
theorem pow_tz_le {n : Nat} (h : n ≠ 0) : 2 ^ tz n ≤ n := by
  have e := od_tz n
  calc 2 ^ tz n = 1 * 2 ^ tz n := (Nat.one_mul _).symm
    _ ≤ od n * 2 ^ tz n := Nat.mul_le_mul_right _ (od_pos h)
    _ = n := e
theorem tz_lt {n k : Nat} (h : n ≠ 0) (hk : n < 2 ^ k) : tz n < k :=
  (Nat.pow_lt_pow_iff_right (a := 2) (by decide)).mp (Nat.lt_of_le_of_lt (pow_tz_le h) hk)

theorem bl_zero : bl 0 = 0 := rfl
theorem bl_pos {n : Nat} (h : n ≠ 0) : 0 < bl n := by unfold bl; rw [if_neg h]; omega
theorem bl_lt (n : Nat) : n < 2 ^ bl n := by
  unfold bl
  split
  · rename_i h; subst h; decide
  · rename_i h; exact Nat.lt_log2_self
theorem bl_ge {n : Nat} (h : n ≠ 0) : 2 ^ (bl n - 1) ≤ n := by
  unfold bl; rw [if_neg h]; exact Nat.log2_self_le h
theorem bl_le {n k : Nat} (h : n < 2 ^ k) : bl n ≤ k := by
  by_cases h0 : n = 0
  · subst h0; rw [bl_zero]; omega
  · have := bl_ge h0
    have h1 : bl n - 1 < k := (Nat.pow_lt_pow_iff_right (a := 2) (by decide)).mp (Nat.lt_of_le_of_lt this h)
    omega
theorem bl_is {n k : Nat} (h1 : 2 ^ k ≤ n) (h2 : n < 2 ^ (k + 1)) : bl n = k + 1 := by
  have h0 : n ≠ 0 := by have := pow_pos' k; omega
  have a := bl_le h2
  have b := bl_lt n
  have : k < bl n := (Nat.pow_lt_pow_iff_right (a := 2) (by decide)).mp (Nat.lt_of_le_of_lt h1 b)
  omega
theorem bl_mul {n : Nat} (h : n ≠ 0) (k : Nat) : bl (n * 2 ^ k) = bl n + k := by
  have h1 := bl_ge h
  have h2 := bl_lt n
  have hp := bl_pos h
  have := bl_is (n := n * 2 ^ k) (k := bl n - 1 + k) (by rw [Nat.pow_add]; exact Nat.mul_le_mul_right _ h1)
    (by rw [show bl n - 1 + k + 1 = bl n + k by omega, Nat.pow_add]; exact Nat.mul_lt_mul_of_pos_right h2 (pow_pos' k))
  omega
theorem bl_pow (k : Nat) : bl (2 ^ k) = k + 1 := bl_is (Nat.le_refl _) (Nat.pow_lt_pow_right (by decide) (by omega))
theorem bl_mono {a b : Nat} (h : a ≤ b) : bl a ≤ bl b := bl_le (Nat.lt_of_le_of_lt h (bl_lt b))
theorem intBits_eq (i : Int) : Builtin.Int.intBits i = bl i.natAbs := by
  unfold Builtin.Int.intBits bl
  by_cases h : i = 0
  · subst h; rfl
  · rw [if_neg (by simpa using h), if_neg (by omega)]
theorem bl_od {n : Nat} (h : n ≠ 0) : bl n = bl (od n) + tz n := by
  have := bl_mul (n := od n) (by have := od_pos h; omega) (tz n)
  rw [od_tz] at this; exact this

theorem and_pred {n : Nat} (h : n ≠ 0) : n &&& (n - 1) = n - 2 ^ tz n := by
  induction n using Nat.strongRecOn with
  | ind n ih =>
    have hd := @Nat.and_div_two n (n - 1)
    have hm := @Nat.and_mod_two_eq_one n (n - 1)
    by_cases h2 : n % 2 = 0
    · have i := ih (n / 2) (by omega) (by omega)
      have e1 : (n - 1) / 2 = n / 2 - 1 := by omega
      rw [e1, i] at hd
      rw [tz_even h h2, Nat.pow_succ]
      have hle := pow_tz_le (n := n / 2) (by omega)
      have : ¬ (n &&& (n - 1)) % 2 = 1 := by rw [hm]; omega
      omega
    · rw [tz_odd (by omega)]
      have : ¬ (n &&& (n - 1)) % 2 = 1 := by rw [hm]; omega
      have h3 : n / 2 = (n - 1) / 2 := by omega
      rw [← h3, Nat.and_self] at hd
      omega
theorem and_neg {n : Nat} (h : n ≠ 0) : Builtin.bitAnd (n : Int) (-(n : Int)) = ((2 ^ tz n : Nat) : Int) := by
  have e : (-(n : Int)) = Builtin.bitNot (((n - 1 : Nat) : Int)) := by unfold Builtin.bitNot; omega
  rw [e, bitAnd_not, bitAnd_pp (by omega) (by omega)]
  simp only [Int.toNat_natCast]
  rw [and_pred h]
  have := pow_tz_le h
  omega
theorem and_one (n : Nat) : Builtin.bitAnd (n : Int) 1 = ((n % 2 : Nat) : Int) := by
  rw [bitAnd_pp (by omega) (by omega)]
  simp only [Int.toNat_natCast]
  rw [show (1 : Int).toNat = 1 from rfl, Nat.and_one_is_mod]
theorem and_two (n : Nat) : Builtin.bitAnd (n : Int) 2 = ((n / 2 % 2 * 2 : Nat) : Int) := by
  rw [bitAnd_pp (by omega) (by omega)]
  simp only [Int.toNat_natCast]
  have hd := @Nat.and_div_two n 2
  have hm := @Nat.and_mod_two_eq_one n 2
  rw [show (2 : Int).toNat = 2 from rfl]
  rw [show 2 / 2 = 1 from rfl, Nat.and_one_is_mod] at hd
  have : ¬ (n &&& 2) % 2 = 1 := by rw [hm]; omega
  omega

abbrev fz : D := .tup [.int 0, .int 0, .int 0, .int 0]
/-- the number w * 2^e, as the program writes it -/
def fp (w e : Int) : D := if w = 0 then fz else .tup [.int (if w < 0 then 1 else 0), .int (od w.natAbs), .int (e + tz w.natAbs), .int (bl (od w.natAbs))]
theorem fp_zero (e : Int) : fp 0 e = fz := rfl
theorem fp_ne {w : Int} (h : w ≠ 0) (e : Int) : fp w e = .tup [.int (if w < 0 then 1 else 0), .int (od w.natAbs), .int (e + tz w.natAbs), .int (bl (od w.natAbs))] := if_neg h
theorem pow_cast (k : Nat) : ((2 : Int) ^ k) = ((2 ^ k : Nat) : Int) := by simp
theorem fp_shift (w e : Int) (k : Nat) : fp (w * 2 ^ k) e = fp w (e + k) := by
  by_cases h : w = 0
  · subst h; simp [fp]
  · have hk : (0 : Int) < 2 ^ k := by rw [pow_cast]; have := pow_pos' k; omega
    have h' : w * 2 ^ k ≠ 0 := Int.mul_ne_zero h (by omega)
    rw [fp_ne h, fp_ne h']
    have ha : (w * 2 ^ k).natAbs = w.natAbs * 2 ^ k := by rw [Int.natAbs_mul, pow_cast]; rfl
    have hs : (w * 2 ^ k < 0) = (w < 0) := by
      apply propext
      constructor
      · intro hl
        rcases Int.lt_or_le w 0 with h1 | h1
        · exact h1
        · have := Int.mul_nonneg h1 (Int.le_of_lt hk); exact absurd hl (Int.not_lt.mpr this)
      · intro hl
        have := Int.mul_neg_of_neg_of_pos hl hk
        exact this
    rw [ha, od_mul (by omega), tz_mul (by omega)]
    have h2 : e + ((tz w.natAbs + k : Nat) : Int) = e + (k : Int) + (tz w.natAbs : Int) := by push_cast; omega
    rw [h2]
    simp only [hs]
end
section
open PySem PySem.W PySem.Calls PyProof.Rows PySem.SeqAt
def P2 (e : Int) : Nat := 2 ^ (e + 5000).toNat
theorem P2_pos (e : Int) : 0 < P2 e := pow_pos' _
theorem P2_add {e : Int} (h : -5000 ≤ e) (k : Nat) : P2 (e + k) = 2 ^ k * P2 e := by
  unfold P2; rw [show (e + k + 5000).toNat = k + (e + 5000).toNat by omega, Nat.pow_add]

def RdQ (away : Bool) (q X U : Nat) : Prop := if away = true then X ≤ q * U ∧ q * U < X + U else q * U ≤ X ∧ X < (q + 1) * U
structure Rd (away : Bool) (p a Dn : Nat) (e : Int) (q : Nat) (t : Int) : Prop where
  lo : 2 ^ (p - 1) * (Dn * P2 t) ≤ a * P2 e
  hi : a * P2 e < 2 ^ p * (Dn * P2 t)
  qq : RdQ away q (a * P2 e) (Dn * P2 t)
  tt : -5000 ≤ t

theorem sc_le {X X' Dn Dn' P c d : Nat} (h : X * Dn' = X' * Dn) (hd : 0 < Dn) (hd' : 0 < Dn') : c * (Dn * P) ≤ X + d * (Dn * P) ↔ c * (Dn' * P) ≤ X' + d * (Dn' * P) := by
  have e1 : c * (Dn * P) * Dn' = c * (Dn' * P) * Dn := by ac_rfl
  have e2 : d * (Dn * P) * Dn' = d * (Dn' * P) * Dn := by ac_rfl
  constructor
  · intro q
    have := Nat.mul_le_mul_right Dn' q
    rw [Nat.add_mul, e1, e2, h, ← Nat.add_mul] at this
    exact Nat.le_of_mul_le_mul_right this hd
  · intro q
    have := Nat.mul_le_mul_right Dn q
    rw [Nat.add_mul, ← e1, ← e2, ← h, ← Nat.add_mul] at this
    exact Nat.le_of_mul_le_mul_right this hd'
theorem sc_lt {X X' Dn Dn' P c d : Nat} (h : X * Dn' = X' * Dn) (hd : 0 < Dn) (hd' : 0 < Dn') : c * (Dn * P) < X + d * (Dn * P) ↔ c * (Dn' * P) < X' + d * (Dn' * P) := by
  have e1 : c * (Dn * P) * Dn' = c * (Dn' * P) * Dn := by ac_rfl
  have e2 : d * (Dn * P) * Dn' = d * (Dn' * P) * Dn := by ac_rfl
  constructor
  · intro q
    have := Nat.mul_lt_mul_of_pos_right q hd'
    rw [Nat.add_mul, e1, e2, h, ← Nat.add_mul] at this
    exact Nat.lt_of_mul_lt_mul_right this
  · intro q
    have := Nat.mul_lt_mul_of_pos_right q hd
    rw [Nat.add_mul, ← e1, ← e2, ← h, ← Nat.add_mul] at this
    exact Nat.lt_of_mul_lt_mul_right this

theorem Rd.same {away : Bool} {p a Dn a' Dn' q : Nat} {e e' t : Int} (h : a * P2 e * Dn' = a' * P2 e' * Dn) (hd : 0 < Dn) (hd' : 0 < Dn') (x : Rd away p a Dn e q t) : Rd away p a' Dn' e' q t := by
  have A := fun c d => sc_le (P := P2 t) (c := c) (d := d) h hd hd'
  have B := fun c d => sc_lt (P := P2 t) (c := c) (d := d) h hd hd'
  refine ⟨?_, ?_, ?_, x.tt⟩
  · have := (A (2 ^ (p - 1)) 0).mp (by simpa using x.lo); simpa using this
  · have := mt (A (2 ^ p) 0).mpr (by simpa using x.hi); simpa using this
  · have hq := x.qq
    unfold RdQ at hq ⊢
    cases away
    · simp only [Bool.false_eq_true, if_false] at hq ⊢
      have h1 := (A q 0).mp (by simpa using hq.1)
      have h2 := mt (A (q + 1) 0).mpr (by simpa using hq.2)
      exact ⟨by simpa using h1, by simpa using h2⟩
    · simp only [if_true] at hq ⊢
      have h1 := mt (B q 0).mpr (by simpa using hq.1)
      have h2 := (B q 1).mp (by simpa using hq.2)
      exact ⟨by simpa using h1, by simpa using h2⟩

theorem Rd.t_le {away : Bool} {p a Dn q q' : Nat} {e t t' : Int} (hp : 1 ≤ p) (x : Rd away p a Dn e q t) (y : Rd away p a Dn e q' t') : t' ≤ t := by
  rcases Int.lt_or_le t t' with h | h
  · exfalso
    obtain ⟨k, rfl⟩ : ∃ k : Nat, t' = t + ((k + 1 : Nat) : Int) := ⟨(t' - t - 1).toNat, by omega⟩
    have lo := y.lo
    rw [P2_add x.tt] at lo
    have hi := x.hi
    have e1 : 2 ^ (p - 1) * (Dn * (2 ^ (k + 1) * P2 t)) = 2 ^ k * (2 ^ p * (Dn * P2 t)) := by
      obtain ⟨r, rfl⟩ : ∃ r, p = r + 1 := ⟨p - 1, by omega⟩
      rw [Nat.add_sub_cancel, Nat.pow_succ, Nat.pow_succ]; ac_rfl
    rw [e1] at lo
    have := Nat.mul_le_mul_right (2 ^ p * (Dn * P2 t)) (pow_pos' k)
    omega
  · exact h
theorem Rd.unique {away : Bool} {p a Dn q q' : Nat} {e t t' : Int} (hp : 1 ≤ p) (x : Rd away p a Dn e q t) (y : Rd away p a Dn e q' t') : q = q' ∧ t = t' := by
  have ht : t = t' := Int.le_antisymm (y.t_le hp x) (x.t_le hp y)
  subst ht
  refine ⟨?_, rfl⟩
  have h1 := x.qq
  have h2 := y.qq
  generalize a * P2 e = X at h1 h2
  unfold RdQ at h1 h2
  have key : ∀ m n : Nat, m * (Dn * P2 t) < n * (Dn * P2 t) → m < n := fun m n h => Nat.lt_of_mul_lt_mul_right h
  cases away
  · simp only [Bool.false_eq_true, if_false] at h1 h2
    have := key _ _ (Nat.lt_of_le_of_lt h1.1 h2.2)
    have := key _ _ (Nat.lt_of_le_of_lt h2.1 h1.2)
    omega
  · simp only [if_true] at h1 h2
    have a1 := key q (q' + 1) (by rw [Nat.add_mul, Nat.one_mul]; omega)
    have a2 := key q' (q + 1) (by rw [Nat.add_mul, Nat.one_mul]; omega)
    omega

def sg (N : Int) (q : Nat) : Int := if N < 0 then -(q : Int) else q

open Classical in
/-- (N / Dn) * 2^e, rounded to p bits, up or down; p = 0: as it is -/
noncomputable def Z (up : Bool) (p : Nat) (N : Int) (Dn : Nat) (e : Int) : D :=
  if N = 0 then fz else if p = 0 then fp N e else
    if h : ∃ y : Nat × Int, Rd (up == decide (0 < N)) p N.natAbs Dn e y.1 y.2 then fp (sg N (Classical.choose h).1) (Classical.choose h).2 else .none

theorem Z_zero {up : Bool} {p Dn : Nat} {e : Int} : Z up p 0 Dn e = fz := if_pos rfl
theorem Z_exact {up : Bool} {N : Int} {Dn : Nat} {e : Int} : Z up 0 N Dn e = fp N e := by
  unfold Z
  by_cases h : N = 0
  · subst h; rw [if_pos rfl]; rfl
  · rw [if_neg h, if_pos rfl]
theorem Z_eq {up : Bool} {p Dn q : Nat} {N : Int} {e t : Int} (hN : N ≠ 0) (hp : 1 ≤ p) (hd : 0 < Dn) (h : Rd (up == decide (0 < N)) p N.natAbs Dn e q t) : Z up p N Dn e = fp (sg N q) t := by
  have hx : ∃ y : Nat × Int, Rd (up == decide (0 < N)) p N.natAbs Dn e y.1 y.2 := ⟨(q, t), h⟩
  unfold Z
  rw [if_neg hN, if_neg (by omega), dif_pos hx]
  obtain ⟨h1, h2⟩ := Rd.unique hp (Classical.choose_spec hx) h
  rw [h1, h2]
theorem posL {a b : Int} (h : 0 < a * b) (hb : 0 < b) : 0 < a := by
  rcases Int.lt_or_le 0 a with q | q
  · exact q
  · have := Int.mul_le_mul_of_nonneg_right q (Int.le_of_lt hb)
    rw [Int.zero_mul] at this; omega
theorem Z_same {up : Bool} {p Dn Dn' : Nat} {N N' : Int} {e e' : Int} (hp : 1 ≤ p) (hd : 0 < Dn) (hd' : 0 < Dn') (h : N * P2 e * Dn' = N' * P2 e' * Dn) : Z up p N Dn e = Z up p N' Dn' e' := by
  have k1 : (0 : Int) < P2 e * Dn' := by have := Nat.mul_pos (P2_pos e) hd'; exact_mod_cast this
  have k2 : (0 : Int) < P2 e' * Dn := by have := Nat.mul_pos (P2_pos e') hd; exact_mod_cast this
  have h' : N * (P2 e * Dn') = N' * (P2 e' * Dn) := by rw [← Int.mul_assoc, ← Int.mul_assoc]; exact h
  have hna : N.natAbs * P2 e * Dn' = N'.natAbs * P2 e' * Dn := by
    have := congrArg Int.natAbs h
    simpa [Int.natAbs_mul] using this
  have s0 : N = 0 ↔ N' = 0 := by
    constructor
    · rintro rfl; rw [Int.zero_mul] at h'
      rcases Int.mul_eq_zero.mp h'.symm with q | q
      · exact q
      · omega
    · rintro rfl; rw [Int.zero_mul] at h'
      rcases Int.mul_eq_zero.mp h' with q | q
      · exact q
      · omega
  have sp : 0 < N ↔ 0 < N' := by
    constructor
    · intro q
      have := Int.mul_pos q k1
      rw [h'] at this
      exact posL this k2
    · intro q
      have := Int.mul_pos q k2
      rw [← h'] at this
      exact posL this k1
  by_cases hN : N = 0
  · rw [hN, s0.mp hN, Z_zero, Z_zero]
  · have hN' : ¬ N' = 0 := fun q => hN (s0.mpr q)
    have tr : ∀ q t, Rd (up == decide (0 < N)) p N.natAbs Dn e q t ↔ Rd (up == decide (0 < N')) p N'.natAbs Dn' e' q t := by
      intro q t
      have : decide (0 < N) = decide (0 < N') := decide_eq_decide.mpr sp
      rw [this]
      exact ⟨Rd.same hna hd hd', Rd.same hna.symm hd' hd⟩
    by_cases hx : ∃ y : Nat × Int, Rd (up == decide (0 < N)) p N.natAbs Dn e y.1 y.2
    · obtain ⟨y, hy⟩ := hx
      rw [Z_eq hN hp hd hy, Z_eq hN' hp hd' ((tr _ _).mp hy)]
      congr 1
      unfold sg
      have : (N < 0) = (N' < 0) := propext (by omega)
      simp only [this]
    · have hx' : ¬ ∃ y : Nat × Int, Rd (up == decide (0 < N')) p N'.natAbs Dn' e' y.1 y.2 := by
        rintro ⟨y, hy⟩
        exact hx ⟨y, (tr _ _).mpr hy⟩
      unfold Z
      rw [if_neg hN, if_neg hN', if_neg (by omega), if_neg (by omega), dif_neg hx, dif_neg hx']
end
section
open PySem PySem.W PySem.Calls PyProof.Rows PySem.SeqAt
theorem sg_ne {N : Int} {q : Nat} : (sg N q).natAbs = q := by unfold sg; split <;> omega
theorem sg_self (N : Int) : sg N N.natAbs = N := by unfold sg; split <;> omega
theorem sg_mul (N : Int) (q k : Nat) : sg N (q * k) = sg N q * (k : Int) := by
  unfold sg; split
  · push_cast; rw [Int.neg_mul]
  · push_cast; rfl

/-- exact: few enough bits -/
theorem Z_fits {up : Bool} {p : Nat} {N e : Int} (hN : N ≠ 0) (hp : 1 ≤ p) (hb : bl N.natAbs ≤ p) (he : -5000 ≤ e - p) : Z up p N 1 e = fp N e := by
  obtain ⟨k, hk⟩ : ∃ k : Nat, p = bl N.natAbs + k := ⟨p - bl N.natAbs, by omega⟩
  have hm : N.natAbs ≠ 0 := by omega
  have hbp := bl_pos hm
  have ht : -5000 ≤ e - k := by omega
  have hP : P2 e = 2 ^ k * P2 (e - k) := by rw [← P2_add ht, show e - (k : Int) + k = e by omega]
  have h : Rd (up == decide (0 < N)) p N.natAbs 1 e (N.natAbs * 2 ^ k) (e - k) := by
    refine ⟨?_, ?_, ?_, ht⟩
    · rw [Nat.one_mul, hP, ← Nat.mul_assoc]
      refine Nat.mul_le_mul_right _ ?_
      have h1 := bl_ge hm
      calc 2 ^ (p - 1) = 2 ^ (bl N.natAbs - 1) * 2 ^ k := by rw [← Nat.pow_add]; congr 1; omega
        _ ≤ N.natAbs * 2 ^ k := Nat.mul_le_mul_right _ h1
    · rw [Nat.one_mul, hP, ← Nat.mul_assoc]
      refine Nat.mul_lt_mul_of_pos_right ?_ (P2_pos _)
      have h1 := bl_lt N.natAbs
      calc N.natAbs * 2 ^ k < 2 ^ bl N.natAbs * 2 ^ k := Nat.mul_lt_mul_of_pos_right h1 (pow_pos' k)
        _ = 2 ^ p := by rw [← Nat.pow_add, hk]
    · have e1 : N.natAbs * P2 e = N.natAbs * 2 ^ k * (1 * P2 (e - k)) := by rw [hP]; rw [Nat.one_mul, Nat.mul_assoc]
      have hU : 0 < 1 * P2 (e - k) := by rw [Nat.one_mul]; exact P2_pos _
      unfold RdQ
      rw [e1]
      split
      · exact ⟨Nat.le_refl _, by omega⟩
      · exact ⟨Nat.le_refl _, by rw [Nat.add_mul]; omega⟩
  rw [Z_eq hN hp (by decide) h, sg_mul, sg_self, ← pow_cast, fp_shift]
  congr 1; omega

def cdiv (a b : Nat) : Nat := (a + b - 1) / b
def rdiv (away : Bool) (a b : Nat) : Nat := if away = true then cdiv a b else a / b
theorem rdiv_q {away : Bool} {a b : Nat} (hb : 0 < b) : RdQ away (rdiv away a b) a b := by
  unfold RdQ rdiv
  cases away
  · simp only [Bool.false_eq_true, if_false]
    have h1 := Nat.div_add_mod a b
    have h2 := Nat.mod_lt a hb
    rw [Nat.add_mul, Nat.one_mul, Nat.mul_comm (a / b) b]
    omega
  · simp only [if_true]
    unfold cdiv
    have h1 := Nat.div_add_mod (a + b - 1) b
    have h2 := Nat.mod_lt (a + b - 1) hb
    rw [Nat.mul_comm ((a + b - 1) / b) b]
    omega
theorem RdQ.scale {away : Bool} {q a b c : Nat} (hc : 0 < c) (h : RdQ away q a b) : RdQ away q (a * c) (b * c) := by
  unfold RdQ at h ⊢
  cases away
  · simp only [Bool.false_eq_true, if_false] at h ⊢
    exact ⟨by rw [← Nat.mul_assoc]; exact Nat.mul_le_mul_right _ h.1, by rw [← Nat.mul_assoc]; exact Nat.mul_lt_mul_of_pos_right h.2 hc⟩
  · simp only [if_true] at h ⊢
    exact ⟨by rw [← Nat.mul_assoc]; exact Nat.mul_le_mul_right _ h.1, by rw [← Nat.mul_assoc, ← Nat.add_mul]; exact Nat.mul_lt_mul_of_pos_right h.2 hc⟩

/-- cut: too many bits -/
theorem Z_cut {up : Bool} {p n : Nat} {N e : Int} (hN : N ≠ 0) (hp : 1 ≤ p) (hb : bl N.natAbs = p + n) (he : -5000 ≤ e) :
    Z up p N 1 e = fp (sg N (rdiv (up == decide (0 < N)) N.natAbs (2 ^ n))) (e + n) := by
  have hm : N.natAbs ≠ 0 := by omega
  refine Z_eq hN hp (by decide) ⟨?_, ?_, ?_, by omega⟩
  · rw [Nat.one_mul, P2_add he, ← Nat.mul_assoc]
    refine Nat.mul_le_mul_right _ ?_
    have h1 := bl_ge hm
    rw [← Nat.pow_add, show p - 1 + n = bl N.natAbs - 1 by omega]; exact h1
  · rw [Nat.one_mul, P2_add he, ← Nat.mul_assoc]
    refine Nat.mul_lt_mul_of_pos_right ?_ (P2_pos _)
    have h1 := bl_lt N.natAbs
    rw [← Nat.pow_add, ← hb]; exact h1
  · rw [Nat.one_mul, P2_add he]
    exact (rdiv_q (pow_pos' n)).scale (P2_pos e)

/-- the rounded magnitude lies between two powers -/
theorem rdiv_range {away : Bool} {m p n : Nat} (hm : m ≠ 0) (hp : 1 ≤ p) (hb : bl m = p + n) : 2 ^ (p - 1) ≤ rdiv away m (2 ^ n) ∧ rdiv away m (2 ^ n) ≤ 2 ^ p := by
  have h1 := bl_ge hm
  have h2 := bl_lt m
  have hq := rdiv_q (away := away) (a := m) (pow_pos' n)
  have e1 : 2 ^ (bl m - 1) = 2 ^ (p - 1) * 2 ^ n := by rw [← Nat.pow_add]; congr 1; omega
  have e2 : 2 ^ bl m = 2 ^ p * 2 ^ n := by rw [← Nat.pow_add, hb]
  rw [e1] at h1
  rw [e2] at h2
  generalize rdiv away m (2 ^ n) = q at hq
  have hn := pow_pos' n
  unfold RdQ at hq
  cases away
  · simp only [Bool.false_eq_true, if_false] at hq
    have a1 : 2 ^ (p - 1) < q + 1 := Nat.lt_of_mul_lt_mul_right (Nat.lt_of_le_of_lt h1 hq.2)
    have a2 : q < 2 ^ p := Nat.lt_of_mul_lt_mul_right (Nat.lt_of_le_of_lt hq.1 h2)
    omega
  · simp only [if_true] at hq
    have a1 : 2 ^ (p - 1) ≤ q := Nat.le_of_mul_le_mul_right (Nat.le_trans h1 hq.1) hn
    have a2 : q < 2 ^ p + 1 := by
      refine Nat.lt_of_mul_lt_mul_right (a := 2 ^ n) ?_
      rw [Nat.add_mul, Nat.one_mul]; omega
    omega
theorem rdiv_bl {away : Bool} {m p n : Nat} (hm : m ≠ 0) (hp : 1 ≤ p) (hb : bl m = p + n) : bl (rdiv away m (2 ^ n)) = p ∨ rdiv away m (2 ^ n) = 2 ^ p := by
  obtain ⟨h1, h2⟩ := rdiv_range (away := away) hm hp hb
  rcases Nat.lt_or_ge (rdiv away m (2 ^ n)) (2 ^ p) with h | h
  · left
    have := bl_is (k := p - 1) h1 (by rw [show p - 1 + 1 = p by omega]; exact h)
    omega
  · right; omega

-- the shifts of the program
theorem shr_floor (m n : Nat) : (m : Int).fdiv (2 ^ n) = ((m / 2 ^ n : Nat) : Int) := by
  rw [pow_cast, Int.fdiv_eq_ediv_of_nonneg _ (Int.natCast_nonneg _)]
  push_cast; rfl
theorem shr_ceil (m n : Nat) : -((-(m : Int)).fdiv (2 ^ n)) = ((cdiv m (2 ^ n) : Nat) : Int) := by
  have hn := pow_pos' n
  rw [pow_cast, Int.fdiv_eq_ediv_of_nonneg _ (Int.natCast_nonneg _)]
  unfold cdiv
  generalize 2 ^ n = b at hn
  have h1 := Int.emod_nonneg (-(m : Int)) (b := (b : Int)) (by omega)
  have h2 := Int.emod_lt_of_pos (-(m : Int)) (b := (b : Int)) (by omega)
  have h3 := Int.mul_ediv_add_emod (-(m : Int)) b
  have h4 : (((m + b - 1) / b : Nat) : Int) = (((m + b - 1 : Nat) : Int)) / (b : Int) := by push_cast; rfl
  rw [h4]
  have h5 : ((m + b - 1 : Nat) : Int) = m + b - 1 := by omega
  rw [h5]
  symm
  rw [Int.ediv_eq_iff_of_pos (by omega)]
  rw [Int.neg_mul]
  generalize (-(m : Int)) / (b : Int) = y at *
  generalize (-(m : Int)) % (b : Int) = r at *
  have : y * (b : Int) = b * y := Int.mul_comm _ _
  constructor <;> omega
end
section
open PySem PySem.W PySem.Calls PyProof.Rows PySem.SeqAt
section
variable (FN : Str → Prop) (T : Str → List D → D → Prop) (G : Str → D → Prop) (GD : Str → Str → D → Prop)
def kn (r : PS) (K : Fl → Prop) : Fl → Prop
  | .nx ρ => pS FN T G GD r ρ K
  | .rt v => K (.rt v)
def kw (c : PE) (body r : PS) (n : Nat) (K : Fl → Prop) : Fl → Prop
  | .nx ρ => pWhl (fun ρ P N => pT FN T G GD c ρ P N) (fun ρ K => pS FN T G GD body ρ K) n ρ (kn FN T G GD r K)
  | .rt v => K (.rt v)
end
def PowOk (a b : Int) : Prop := (Builtin.Int.intBits a : Int) * b ≤ 2 ^ 27
theorem PowOk.of {a b : Int} {n k : Nat} (h1 : Builtin.Int.intBits a ≤ n) (h2 : b ≤ k) (h0 : 0 ≤ b) (h3 : n * k ≤ 100000) : PowOk a b := by
  obtain ⟨m, rfl⟩ : ∃ m : Nat, b = m := ⟨b.toNat, by omega⟩
  have h4 := Nat.mul_le_mul h1 (show m ≤ k by omega)
  have h5 : ((Builtin.Int.intBits a * m : Nat) : Int) ≤ 100000 := by omega
  unfold PowOk
  rw [← Int.natCast_mul]
  omega
theorem mulOk00 : IntMulOk 0 0 := IntMulOk.of_left (by decide)
def dInt (f : Int → Prop) : D → Prop
  | .int i => f i
  | _ => False
def dTup (f : List D → Prop) : D → Prop
  | .tup l => f l
  | _ => False
def dList (f : List D → Prop) : D → Prop
  | .list l => f l
  | _ => False

section
variable {FN : Str → Prop} {T : Str → List D → D → Prop} {G : Str → D → Prop} {GD : Str → Str → D → Prop} {ρ ρ' : Rho} {K : Fl → Prop} {Q : D → Prop} {P N : Prop}
theorem r_ifs {c : PE} {a b r : PS} (h : pT FN T G GD c ρ (pS FN T G GD a ρ (kn FN T G GD r K)) (pS FN T G GD b ρ (kn FN T G GD r K))) : pS FN T G GD (.ifs c a b r) ρ K := h
theorem r_done {r : PS} (h : pS FN T G GD r ρ K) : pS FN T G GD .done ρ (kn FN T G GD r K) := h
theorem r_ret {e : PE} (h : pE FN T G GD e ρ fun d => K (.rt d)) : pS FN T G GD (.ret e) ρ K := h
theorem r_rt {r : PS} {d : D} (h : K (.rt d)) : kn FN T G GD r K (.rt d) := h
theorem r_asg {x : Nat} {e : PE} {r : PS} (h : pE FN T G GD e ρ fun d => nameD d fun d' => pS FN T G GD r (put ρ x d') K) : pS FN T G GD (.asg x e r) ρ K := h
theorem r_asg2 {x y : Nat} {e : PE} {r : PS} (h : pE FN T G GD e ρ fun d => pS FN T G GD r (put (put ρ x d) y d) K) : pS FN T G GD (.asg2 x y e r) ρ K := h
theorem r_asrt {c : PE} {r : PS} (h : pT FN T G GD c ρ (pS FN T G GD r ρ K) False) : pS FN T G GD (.asrt c r) ρ K := h
theorem r_aug {x : Nat} {o : Operator} {e : PE} {r : PS} {i : Int} (hx : look ρ x = some (.int i)) (h : pE FN T G GD e ρ fun y => dBin o (.int i) y fun z => nameD z fun z' => pS FN T G GD r (put ρ x z') K) : pS FN T G GD (.aug x o e r) ρ K := by
  simp only [pS, hx]; exact h
theorem r_unp {xs : List Nat} {e : PE} {r : PS} (h : pE FN T G GD e ρ (dTup fun ds => xs.length = ds.length ∧ putAll xs ds ρ fun ρ' => pS FN T G GD r ρ' K)) : pS FN T G GD (.unp xs e r) ρ K := by
  have : (dTup fun ds => xs.length = ds.length ∧ putAll xs ds ρ fun ρ' => pS FN T G GD r ρ' K) = (fun d => (match d with | .tup ds => xs.length = ds.length ∧ putAll xs ds ρ fun ρ' => pS FN T G GD r ρ' K | _ => False)) := by
    funext d; cases d <;> rfl
  rw [this] at h; exact h
theorem r_unpR {xs : List Nat} {e : PE} {r : PS} (h : pE FN T G GD e ρ (dTup fun ds => xs.length = ds.length ∧ putAll xs.reverse ds.reverse ρ fun ρ' => pS FN T G GD r ρ' K)) : pS FN T G GD (.unpR xs e r) ρ K := by
  have : (dTup fun ds => xs.length = ds.length ∧ putAll xs.reverse ds.reverse ρ fun ρ' => pS FN T G GD r ρ' K) = (fun d => (match d with | .tup ds => xs.length = ds.length ∧ putAll xs.reverse ds.reverse ρ fun ρ' => pS FN T G GD r ρ' K | _ => False)) := by
    funext d; cases d <;> rfl
  rw [this] at h; exact h
theorem r_fors {x : Nat} {it : PE} {body r : PS} (h : pE FN T G GD it ρ (dList fun l => l.length ≤ 1000 ∧ pFor l (fun d ρ K => pS FN T G GD body (put ρ x d) K) ρ (kn FN T G GD r K))) : pS FN T G GD (.fors x it body r) ρ K := by
  have : (dList fun l => l.length ≤ 1000 ∧ pFor l (fun d ρ K => pS FN T G GD body (put ρ x d) K) ρ (kn FN T G GD r K)) = (fun d => (match d with
      | .list l => l.length ≤ 1000 ∧ pFor l (fun d ρ K => pS FN T G GD body (put ρ x d) K) ρ fun fl => (match fl with | .nx ρ' => pS FN T G GD r ρ' K | .rt v => K (.rt v))
      | _ => False)) := by
    funext d; cases d <;> rfl
  rw [this] at h; exact h
theorem r_putAll {x : Nat} {xs : List Nat} {d : D} {ds : List D} {K : Rho → Prop} (h : nameD d fun d' => putAll xs ds (put ρ x d') K) : putAll (x :: xs) (d :: ds) ρ K := h
theorem r_putAll' {x : Nat} {xs : List Nat} {d : D} {ds : List D} {K : Rho → Prop} (h : putAll xs ds (put ρ x d) K) : putAll (x :: xs) (d :: ds) ρ K := nameD_of h
theorem r_put {r : PS} {x : Nat} {d : D} (hp : put ρ x d = ρ') (h : pS FN T G GD r ρ' K) : pS FN T G GD r (put ρ x d) K := hp ▸ h
theorem r_putA {x : Nat} {xs : List Nat} {d : D} {ds : List D} {K : Rho → Prop} (hp : put ρ x d = ρ') (h : putAll xs ds ρ' K) : putAll xs ds (put ρ x d) K := hp ▸ h
theorem r_rev2 {x y : Nat} {a b : D} {K : Rho → Prop} (h : putAll [y, x] [b, a] ρ K) : putAll ([x, y].reverse) ([a, b].reverse) ρ K := h
theorem r_putNil {K : Rho → Prop} (h : K ρ) : putAll [] [] ρ K := h
theorem r_nameI {i : Int} {K : D → Prop} (h : ∀ j, j = i → K (.int j)) : nameD (.int i) K := h
theorem r_name {d : D} {K : D → Prop} (h : K d) : nameD d K := nameD_of h
theorem r_dTup {f : List D → Prop} {l : List D} (h : f l) : dTup f (.tup l) := h
theorem r_dInt {f : Int → Prop} {i : Int} (h : f i) : dInt f (.int i) := h
theorem r_dList {f : List D → Prop} {l : List D} (h : f l) : dList f (.list l) := h

theorem r_cst {d : D} (h : Q d) : pE FN T G GD (.cst d) ρ Q := h
theorem r_var {i : Nat} {d : D} (hx : look ρ i = some d) (h : Q d) : pE FN T G GD (.var i) ρ Q := by simp only [pE, hx]; exact h
theorem r_glob {n : Str} {d : D} (hx : G n d) (h : Q d) : pE FN T G GD (.glob n) ρ Q := ⟨d, hx, h⟩
theorem r_bin {o : Operator} {a b : PE} (h : pE FN T G GD a ρ fun x => pE FN T G GD b ρ fun y => dBin o x y Q) : pE FN T G GD (.bin o a b) ρ Q := h
theorem r_neg {a : PE} (h : pE FN T G GD a ρ (dInt fun i => Q (.int (-i)))) : pE FN T G GD (.neg a) ρ Q := by
  have : (dInt fun i => Q (.int (-i))) = (fun x => (match x with | .int i => Q (.int (-i)) | _ => False)) := by funext d; cases d <;> rfl
  rw [this] at h; exact h
theorem r_bitlen {a : PE} (h : pE FN T G GD a ρ (dInt fun i => Q (.int (Builtin.Int.intBits i)))) : pE FN T G GD (.bitlen a) ρ Q := by
  have : (dInt fun i => Q (.int (Builtin.Int.intBits i))) = (fun x => (match x with | .int i => Q (.int (Builtin.Int.intBits i)) | _ => False)) := by funext d; cases d <;> rfl
  rw [this] at h; exact h
theorem r_toInt {a : PE} (h : pE FN T G GD a ρ (dInt fun i => Q (.int i))) : pE FN T G GD (.toInt a) ρ Q := by
  have : (dInt fun i => Q (.int i)) = (fun x => (match x with | .int i => Q (.int i) | _ => False)) := by funext d; cases d <;> rfl
  rw [this] at h; exact h
theorem r_abs {a : PE} (h : pE FN T G GD a ρ (dInt fun i => Q (.int (if i < 0 then -i else i)))) : pE FN T G GD (.abs a) ρ Q := by
  have : (dInt fun i => Q (.int (if i < 0 then -i else i))) = (fun x => (match x with | .int i => Q (.int (if i < 0 then -i else i)) | _ => False)) := by funext d; cases d <;> rfl
  rw [this] at h; exact h
theorem r_nt {a : PE} (h : pE FN T G GD a ρ fun x => dTruth x (Q (.bool false)) (Q (.bool true))) : pE FN T G GD (.nt a) ρ Q := h
theorem r_cmp {o : CmpOp} {a b : PE} (h : pE FN T G GD a ρ fun x => pE FN T G GD b ρ fun y => dCmp o x y (Q (.bool true)) (Q (.bool false))) : pE FN T G GD (.cmp o a b) ρ Q := h
theorem r_and {a b : PE} (h : pE FN T G GD a ρ fun x => dTruth x (pE FN T G GD b ρ Q) (Q x)) : pE FN T G GD (.and a b) ρ Q := h
theorem r_or {a b : PE} (h : pE FN T G GD a ρ fun x => dTruth x (Q x) (pE FN T G GD b ρ Q)) : pE FN T G GD (.or a b) ρ Q := h
theorem r_ite {c a b : PE} (h : pT FN T G GD c ρ (pE FN T G GD a ρ Q) (pE FN T G GD b ρ Q)) : pE FN T G GD (.ite c a b) ρ Q := h
theorem r_call {f : Str} {as : PE} (hf : FN f) (h : pL FN T G GD as ρ fun ds => ∃ d, T f ds d ∧ Q d) : pE FN T G GD (.call f as) ρ Q := ⟨hf, h⟩
theorem r_tcall {f : Str} {as : PE} (hf : FN f) (h : pL FN T G GD as ρ fun ds => ∃ d, T f ds d ∧ dTruth d P N) : pT FN T G GD (.call f as) ρ P N := ⟨hf, h⟩
theorem r_tup {as : PE} (h : pL FN T G GD as ρ fun ds => Q (.tup ds)) : pE FN T G GD (.tup as) ρ Q := h
theorem r_list {as : PE} (h : pL FN T G GD as ρ fun ds => Q (.list ds)) : pE FN T G GD (.list as) ρ Q := h
theorem r_nil {Q : List D → Prop} (h : Q []) : pL FN T G GD .nil ρ Q := h
theorem r_cons {a as : PE} {Q : List D → Prop} (h : pE FN T G GD a ρ fun d => pL FN T G GD as ρ fun ds => Q (d :: ds)) : pL FN T G GD (.cons a as) ρ Q := h
def dSub (x y : D) (Q : D → Prop) : Prop := match dItems x, y with | some l, .int k => 0 ≤ k ∧ k < 1000 ∧ ∃ d, l[k.toNat]? = some d ∧ Q d | _, _ => False
theorem r_sub {a i : PE} (h : pE FN T G GD a ρ fun x => pE FN T G GD i ρ fun y => dSub x y Q) : pE FN T G GD (.sub a i) ρ Q := h
theorem r_tsub {a i : PE} (h : pE FN T G GD a ρ fun x => pE FN T G GD i ρ fun y => dSub x y fun d => dTruth d P N) : pT FN T G GD (.sub a i) ρ P N := h
theorem r_subT {l : List D} {k : Int} {d : D} (h0 : 0 ≤ k) (h1 : k < 1000) (hx : l[k.toNat]? = some d) (h : Q d) : dSub (.tup l) (.int k) Q := ⟨h0, h1, d, hx, h⟩
theorem r_subL {l : List D} {k : Int} {d : D} (h0 : 0 ≤ k) (h1 : k < 1000) (hx : l[k.toNat]? = some d) (h : Q d) : dSub (.list l) (.int k) Q := ⟨h0, h1, d, hx, h⟩
def dKey (g : Str) (GD : Str → Str → D → Prop) (Q : D → Prop) : D → Prop
  | .str k => ∃ d, GD g k d ∧ Q d
  | _ => False
theorem r_dget {g : Str} {i : PE} (hg : ∃ k d, GD g k d) (h : pE FN T G GD i ρ (dKey g GD Q)) : pE FN T G GD (.dget g i) ρ Q := by
  have : dKey g GD Q = (fun y => (match y with | .str k => ∃ d, GD g k d ∧ Q d | _ => False)) := by funext d; cases d <;> rfl
  rw [this] at h; exact ⟨hg, h⟩
theorem r_key {g k : Str} {d : D} (hx : GD g k d) (h : Q d) : dKey g GD Q (.str k) := ⟨d, hx, h⟩

-- tests
theorem r_tnt {a : PE} (h : pT FN T G GD a ρ N P) : pT FN T G GD (.nt a) ρ P N := h
theorem r_tand {a b : PE} (h : pT FN T G GD a ρ (pT FN T G GD b ρ P N) N) : pT FN T G GD (.and a b) ρ P N := h
theorem r_tor {a b : PE} (h : pT FN T G GD a ρ P (pT FN T G GD b ρ P N)) : pT FN T G GD (.or a b) ρ P N := h
theorem r_tite {c a b : PE} (h : pT FN T G GD c ρ (pT FN T G GD a ρ P N) (pT FN T G GD b ρ P N)) : pT FN T G GD (.ite c a b) ρ P N := h
theorem r_tcmp {o : CmpOp} {a b : PE} (h : pE FN T G GD a ρ fun x => pE FN T G GD b ρ fun y => dCmp o x y P N) : pT FN T G GD (.cmp o a b) ρ P N := h
theorem r_tcmp2 {o₁ o₂ : CmpOp} {a b c : PE} (h : pE FN T G GD a ρ fun x => pE FN T G GD b ρ fun y => dCmp o₁ x y (pE FN T G GD c ρ fun z => dCmp o₂ y z P N) N) : pT FN T G GD (.cmp2 o₁ o₂ a b c) ρ P N := h
theorem r_tvar {i : Nat} {d : D} (hx : look ρ i = some d) (h : dTruth d P N) : pT FN T G GD (.var i) ρ P N := by simp only [pT, hx]; exact h
theorem r_tbin {o : Operator} {a b : PE} (h : pE FN T G GD a ρ fun x => pE FN T G GD b ρ fun y => dBin o x y fun d => dTruth d P N) : pT FN T G GD (.bin o a b) ρ P N := h
theorem r_tisInt {a : PE} (h : pE FN T G GD a ρ (dInt fun _ => P)) : pT FN T G GD (.isInt a) ρ P N := by
  have : pE FN T G GD a ρ (fun x => (match x with | .int _ => dTruth (.bool true) P N | _ => False)) := by
    have e : (fun x => (match x with | .int _ => dTruth (.bool true) P N | _ => False)) = dInt fun _ => P := by
      funext d; cases d <;> first | rfl | skip
      exact propext (Iff.intro (fun h => h.1 rfl) fun h => And.intro (fun _ => h) fun e => absurd e (by decide))
    rw [e]; exact h
  exact this
theorem r_ti {i : Int} (h1 : i ≠ 0 → P) (h2 : i = 0 → N) : dTruth (.int i) P N := ⟨h1, h2⟩
theorem r_tb {b : Bool} (h1 : b = true → P) (h2 : b = false → N) : dTruth (.bool b) P N := ⟨h1, h2⟩
theorem r_tbt (h1 : P) : dTruth (.bool true) P N := ⟨fun _ => h1, fun h => absurd h (by decide)⟩
theorem r_tbf (h1 : N) : dTruth (.bool false) P N := ⟨fun h => absurd h (by decide), fun _ => h1⟩
-- comparisons
variable {a b : Int}
theorem c_eq (h1 : a = b → P) (h2 : a ≠ b → N) : dCmp .Eq (.int a) (.int b) P N := ⟨h1, h2⟩
theorem c_ne (h1 : a ≠ b → P) (h2 : a = b → N) : dCmp .NotEq (.int a) (.int b) P N := ⟨h1, h2⟩
theorem c_lt (h1 : a < b → P) (h2 : ¬ a < b → N) : dCmp .Lt (.int a) (.int b) P N := ⟨h1, h2⟩
theorem c_le (h1 : a ≤ b → P) (h2 : ¬ a ≤ b → N) : dCmp .LtE (.int a) (.int b) P N := ⟨h1, h2⟩
theorem c_gt (h1 : b < a → P) (h2 : ¬ b < a → N) : dCmp .Gt (.int a) (.int b) P N := ⟨h1, h2⟩
theorem c_ge (h1 : b ≤ a → P) (h2 : ¬ b ≤ a → N) : dCmp .GtE (.int a) (.int b) P N := ⟨h1, h2⟩
theorem c_beq {a b : Bool} (h1 : a = b → P) (h2 : a ≠ b → N) : dCmp .Eq (.bool a) (.bool b) P N := ⟨h1, h2⟩
theorem c_seqY {a : Str} (h1 : P) : dCmp .Eq (.str a) (.str a) P N := ⟨fun _ => h1, fun h => (h rfl).elim⟩
theorem c_seqN {a b : Str} (h : a ≠ b) (h1 : N) : dCmp .Eq (.str a) (.str b) P N := ⟨fun e => (h e).elim, fun _ => h1⟩
theorem c_teqN {a b : List D} (ha : D.pts a = true) (hb : D.pts b = true) (h : a ≠ b) (h1 : N) : dCmp .Eq (.tup a) (.tup b) P N := ⟨ha, hb, fun e => (h e).elim, fun _ => h1⟩
theorem c_teqY {a b : List D} (ha : D.pts a = true) (hb : D.pts b = true) (h : a = b) (h1 : P) : dCmp .Eq (.tup a) (.tup b) P N := ⟨ha, hb, fun _ => h1, fun e => (e h).elim⟩
theorem c_tneN {a b : List D} (ha : D.pts a = true) (hb : D.pts b = true) (h : a = b) (h1 : N) : dCmp .NotEq (.tup a) (.tup b) P N := ⟨ha, hb, fun e => (e h).elim, fun _ => h1⟩
theorem c_inN {a : List D} {b : List D} (ha : D.pts a = true) (hb : D.pts b = true) (h : ¬ D.tup a ∈ b) (h1 : N) : dCmp .In (.tup a) (.list b) P N := ⟨ha, hb, fun e => (h e).elim, fun _ => h1⟩
-- operators
theorem b_add (h : Q (.int (a + b))) : dBin .Add (.int a) (.int b) Q := h
theorem b_sub (h : Q (.int (a - b))) : dBin .Sub (.int a) (.int b) Q := h
theorem b_mul (h1 : IntMulOk a b) (h : Q (.int (a * b))) : dBin .Mult (.int a) (.int b) Q := ⟨h1, h⟩
theorem b_div (h1 : b ≠ 0) (h2 : Builtin.divisionGoesByPylong a b = false) (h : Q (.int (a.fdiv b))) : dBin .FloorDiv (.int a) (.int b) Q := ⟨h1, h2, h⟩
theorem b_mod (h1 : b ≠ 0) (h : Q (.int (a.fmod b))) : dBin .Mod (.int a) (.int b) Q := ⟨h1, h⟩
theorem b_pow (h0 : 0 ≤ b) (h1 : PowOk a b) (h : Q (.int (a ^ b.toNat))) : dBin .Pow (.int a) (.int b) Q := ⟨h0, h1, h⟩
theorem b_shl (h0 : 0 ≤ b) (h1 : (Builtin.Int.intBits a : Int) + b ≤ 2 ^ 27) (h : Q (.int (a * 2 ^ b.toNat))) : dBin .LShift (.int a) (.int b) Q := ⟨h0, h1, h⟩
theorem b_shr (h0 : 0 ≤ b) (h : Q (.int (a.fdiv (2 ^ b.toNat)))) : dBin .RShift (.int a) (.int b) Q := ⟨h0, h⟩
theorem b_and (h : Q (.int (Builtin.bitAnd a b))) : dBin .BitAnd (.int a) (.int b) Q := h
theorem b_xor (h : Q (.int (Builtin.bitXor a b))) : dBin .BitXor (.int a) (.int b) Q := h
theorem b_ladd {a b : List D} (h1 : a.length + b.length ≤ 1000) (h : Q (.list (a ++ b))) : dBin .Add (.list a) (.list b) Q := ⟨h1, h⟩
end
end
section
open PySem PySem.W PySem.Calls PyProof.Rows PySem.SeqAt
local macro_rules | `(tactic| walk_at "bwO") => `(tactic| skip)
local macro_rules | `(tactic| walk_at "bwO") => `(tactic| first | (exfalso; omega) | fail)
local macro_rules | `(tactic| walk_at "bw1") => `(tactic| first | ((with_reducible refine' b_mod ?h0 ?_); (case h0 => omega)) | fail)
local macro_rules | `(tactic| walk_at "bw1") => `(tactic| first | ((with_reducible apply b_pow); (· omega); (· assumption)) | fail)
local macro_rules | `(tactic| walk_at "bw1") => `(tactic| first | ((with_reducible apply b_mul); (· first | assumption | exact IntMulOk.of_left (by decide) | exact IntMulOk.of_right (by decide))) | fail)
local macro_rules | `(tactic| walk_at "bw1") => `(tactic| first | ((with_reducible refine' b_shl ?h0 ?h1 ?_); (case h0 => omega); (case h1 => omega)) | fail)
local macro_rules | `(tactic| walk_at "bw1") => `(tactic| first | ((with_reducible refine' b_shr ?h0 ?_); (case h0 => omega)) | fail)
local macro_rules | `(tactic| walk_at "bw1") => `(tactic| first | (with_reducible refine b_xor ?_) | fail)
local macro_rules | `(tactic| walk_at "bw1") => `(tactic| first | (with_reducible refine b_and ?_) | fail)
local macro_rules | `(tactic| walk_at "bw1") => `(tactic| first | (with_reducible refine b_sub ?_) | fail)
local macro_rules | `(tactic| walk_at "bw1") => `(tactic| first | (with_reducible refine b_add ?_) | fail)
local macro_rules | `(tactic| walk_at "bw1") => `(tactic| first | ((with_reducible refine' c_seqN ?hx ?_); (case hx => decide)) | fail)
local macro_rules | `(tactic| walk_at "bw1") => `(tactic| first | (with_reducible refine c_seqY ?_) | fail)
local macro_rules | `(tactic| walk_at "bw1") => `(tactic| first | ((with_reducible refine c_ge ?_ ?_) <;> intro _h <;> walk_at "bwO") | fail)
local macro_rules | `(tactic| walk_at "bw1") => `(tactic| first | ((with_reducible refine c_gt ?_ ?_) <;> intro _h <;> walk_at "bwO") | fail)
local macro_rules | `(tactic| walk_at "bw1") => `(tactic| first | ((with_reducible refine c_le ?_ ?_) <;> intro _h <;> walk_at "bwO") | fail)
local macro_rules | `(tactic| walk_at "bw1") => `(tactic| first | ((with_reducible refine c_lt ?_ ?_) <;> intro _h <;> walk_at "bwO") | fail)
local macro_rules | `(tactic| walk_at "bw1") => `(tactic| first | ((with_reducible refine c_ne ?_ ?_) <;> intro _h <;> walk_at "bwO") | fail)
local macro_rules | `(tactic| walk_at "bw1") => `(tactic| first | ((with_reducible refine c_eq ?_ ?_) <;> intro _h <;> walk_at "bwO") | fail)
local macro_rules | `(tactic| walk_at "bw1") => `(tactic| first | ((with_reducible refine r_tb ?_ ?_) <;> intro _h) | fail)
local macro_rules | `(tactic| walk_at "bw1") => `(tactic| first | ((with_reducible refine r_ti ?_ ?_) <;> intro _h <;> walk_at "bwO") | fail)
local macro_rules | `(tactic| walk_at "bw1") => `(tactic| first | (with_reducible refine r_tbf ?_) | fail)
local macro_rules | `(tactic| walk_at "bw1") => `(tactic| first | (with_reducible refine r_tbt ?_) | fail)
local macro_rules | `(tactic| walk_at "bw1") => `(tactic| first | (with_reducible refine r_tisInt ?_) | fail)
local macro_rules | `(tactic| walk_at "bw1") => `(tactic| first | (with_reducible refine r_tbin ?_) | fail)
local macro_rules | `(tactic| walk_at "bw1") => `(tactic| first | ((with_reducible refine' r_tvar ?hx ?_); (case hx => exact rfl)) | fail)
local macro_rules | `(tactic| walk_at "bw1") => `(tactic| first | (with_reducible refine r_tcmp2 ?_) | fail)
local macro_rules | `(tactic| walk_at "bw1") => `(tactic| first | (with_reducible refine r_tcmp ?_) | fail)
local macro_rules | `(tactic| walk_at "bw1") => `(tactic| first | (with_reducible refine r_tite ?_) | fail)
local macro_rules | `(tactic| walk_at "bw1") => `(tactic| first | (with_reducible refine r_tor ?_) | fail)
local macro_rules | `(tactic| walk_at "bw1") => `(tactic| first | (with_reducible refine r_tand ?_) | fail)
local macro_rules | `(tactic| walk_at "bw1") => `(tactic| first | (with_reducible refine r_tnt ?_) | fail)
local macro_rules | `(tactic| walk_at "bw1") => `(tactic| first | ((with_reducible refine' r_key ?hx ?_); (case hx => with_reducible assumption)) | fail)
local macro_rules | `(tactic| walk_at "bw1") => `(tactic| first | ((with_reducible refine' r_dget ?hx ?_); (case hx => exact ⟨_, _, by with_reducible assumption⟩)) | fail)
local macro_rules | `(tactic| walk_at "bw1") => `(tactic| first | ((with_reducible refine' r_subL ?h0 ?h1 ?hx ?_); (case h0 => decide); (case h1 => decide); (case hx => exact rfl)) | fail)
local macro_rules | `(tactic| walk_at "bw1") => `(tactic| first | ((with_reducible refine' r_subT ?h0 ?h1 ?hx ?_); (case h0 => decide); (case h1 => decide); (case hx => exact rfl)) | fail)
local macro_rules | `(tactic| walk_at "bw1") => `(tactic| first | (with_reducible refine r_tsub ?_) | fail)
local macro_rules | `(tactic| walk_at "bw1") => `(tactic| first | (with_reducible refine r_sub ?_) | fail)
local macro_rules | `(tactic| walk_at "bw1") => `(tactic| first | (with_reducible refine r_cons ?_) | fail)
local macro_rules | `(tactic| walk_at "bw1") => `(tactic| first | (with_reducible refine r_nil ?_) | fail)
local macro_rules | `(tactic| walk_at "bw1") => `(tactic| first | (with_reducible refine r_list ?_) | fail)
local macro_rules | `(tactic| walk_at "bw1") => `(tactic| first | (with_reducible refine r_tup ?_) | fail)
local macro_rules | `(tactic| walk_at "bw1") => `(tactic| first | ((with_reducible refine' r_tcall ?hx ?_); (case hx => with_reducible assumption)) | fail)
local macro_rules | `(tactic| walk_at "bw1") => `(tactic| first | ((with_reducible refine' r_call ?hx ?_); (case hx => with_reducible assumption)) | fail)
local macro_rules | `(tactic| walk_at "bw1") => `(tactic| first | (with_reducible refine r_ite ?_) | fail)
local macro_rules | `(tactic| walk_at "bw1") => `(tactic| first | (with_reducible refine r_or ?_) | fail)
local macro_rules | `(tactic| walk_at "bw1") => `(tactic| first | (with_reducible refine r_and ?_) | fail)
local macro_rules | `(tactic| walk_at "bw1") => `(tactic| first | (with_reducible refine r_cmp ?_) | fail)
local macro_rules | `(tactic| walk_at "bw1") => `(tactic| first | (with_reducible refine r_nt ?_) | fail)
local macro_rules | `(tactic| walk_at "bw1") => `(tactic| first | (with_reducible refine r_abs ?_) | fail)
local macro_rules | `(tactic| walk_at "bw1") => `(tactic| first | (with_reducible refine r_toInt ?_) | fail)
local macro_rules | `(tactic| walk_at "bw1") => `(tactic| first | (with_reducible refine r_bitlen ?_) | fail)
local macro_rules | `(tactic| walk_at "bw1") => `(tactic| first | (with_reducible refine r_neg ?_) | fail)
local macro_rules | `(tactic| walk_at "bw1") => `(tactic| first | (with_reducible refine r_bin ?_) | fail)
local macro_rules | `(tactic| walk_at "bw1") => `(tactic| first | ((with_reducible refine' r_glob ?hx ?_); (case hx => with_reducible assumption)) | fail)
local macro_rules | `(tactic| walk_at "bw1") => `(tactic| first | ((with_reducible refine' r_var ?hx ?_); (case hx => exact rfl)) | fail)
local macro_rules | `(tactic| walk_at "bw1") => `(tactic| first | (with_reducible refine r_cst ?_) | fail)
local macro_rules | `(tactic| walk_at "bw1") => `(tactic| first | (with_reducible refine r_dInt ?_) | fail)
local macro_rules | `(tactic| walk_at "bw1") => `(tactic| first | ((with_reducible refine r_dTup ?_); refine ⟨rfl, ?_⟩; (try dsimp only [List.reverse_cons, List.reverse_nil, List.nil_append, List.cons_append])) | fail)
local macro_rules | `(tactic| walk_at "bw1") => `(tactic| first | (with_reducible refine r_name ?_) | fail)
local macro_rules | `(tactic| walk_at "bw1") => `(tactic| first | ((with_reducible refine r_nameI ?_); intro _ _) | fail)
local macro_rules | `(tactic| walk_at "bw1") => `(tactic| first | (with_reducible refine r_putNil ?_) | fail)
local macro_rules | `(tactic| walk_at "bw1") => `(tactic| first | (with_reducible refine r_putAll' ?_) | fail)
local macro_rules | `(tactic| walk_at "bw1") => `(tactic| first | ((with_reducible refine' r_aug ?hx ?_); (case hx => exact rfl)) | fail)
local macro_rules | `(tactic| walk_at "bw1") => `(tactic| first | (with_reducible refine r_unpR ?_) | fail)
local macro_rules | `(tactic| walk_at "bw1") => `(tactic| first | (with_reducible refine r_unp ?_) | fail)
local macro_rules | `(tactic| walk_at "bw1") => `(tactic| first | (with_reducible refine r_asrt ?_) | fail)
local macro_rules | `(tactic| walk_at "bw1") => `(tactic| first | (with_reducible refine r_asg2 ?_) | fail)
local macro_rules | `(tactic| walk_at "bw1") => `(tactic| first | (with_reducible refine r_asg ?_) | fail)
local macro_rules | `(tactic| walk_at "bw1") => `(tactic| first | (with_reducible refine r_rt ?_) | fail)
local macro_rules | `(tactic| walk_at "bw1") => `(tactic| first | (with_reducible refine r_ret ?_) | fail)
local macro_rules | `(tactic| walk_at "bw1") => `(tactic| first | (with_reducible refine r_done ?_) | fail)
local macro_rules | `(tactic| walk_at "bw1") => `(tactic| first | (with_reducible refine r_ifs ?_) | fail)
local macro_rules | `(tactic| walk_at "bw1") => `(tactic| first | ((with_reducible apply r_putA); (· dsimp only [put])) | fail)
local macro_rules | `(tactic| walk_at "bw1") => `(tactic| first | ((with_reducible apply r_put); (· dsimp only [put])) | fail)
section
variable {c : Cx}

theorem T_trailing (P : Prog c) {n m : Nat} (hm : m ≠ 0) : Tell c (n + 1) "trailing" [.int m] (.int (tz m)) := by
  refine P.t_trailing1 n _ _ ?_
  unfold c_trailing
  repeat' walk_at "bw1"
  rw [and_neg hm, intBits_eq, Int.natAbs_natCast, bl_pow]
  congr 2; omega

abbrev rn (up : Bool) : D := .str (if up then "c" else "f")
abbrev sN (b : Bool) (m : Nat) : Int := if b then -(m : Int) else m
abbrev sI (b : Bool) : Int := if b then 1 else 0

abbrev c_ntail : PS := .ifs (.nt (.bin .BitAnd (.var 1) (.cst (.int 1))))
 (.asg 7 (.call "trailing" (.cons (.var 1) .nil))
 (.aug 1 .RShift (.var 7)
 (.aug 2 .Add (.var 7)
 (.aug 3 .Sub (.var 7)
 .done))))
 .done
 (.ifs (.cmp .Eq (.var 1) (.cst (.int 1)))
 (.asg 3 (.cst (.int 1))
 .done)
 .done
 (.ret (.tup (.cons (.var 0) (.cons (.var 1) (.cons (.var 2) (.cons (.var 3) .nil)))))))

theorem bl_one : bl 1 = 1 := rfl
theorem tail_norm (P : Prog c) {n q : Nat} {s t bc iq : Int} {ρ : Rho} {K : Fl → Prop} {x4 x5 x6 x7 x8 x9 x10 x11 x12 : Option D} (hq : q ≠ 0)
    (hρ : ρ = [some (.int s), some (.int iq), some (.int t), some (.int bc), x4, x5, x6, x7, x8, x9, x10, x11, x12]) (hiq : iq = q) (hbc : bc = bl q ∨ ∃ k, q = 2 ^ k)
    (h : K (.rt (.tup [.int s, .int (od q), .int (t + tz q), .int (bl (od q))]))) : qS c (n + 1) c_ntail ρ K := by
  subst hρ; subst hiq
  have f1 := P.is_trailing
  by_cases hodd : q % 2 = 1
  · have e1 : Builtin.bitAnd (q : Int) 1 = 1 := by rw [and_one, hodd]; rfl
    rw [od_odd' hodd, tz_odd hodd] at h
    repeat' walk_at "bw1"
    · rename_i h1 j hj
      have : q = 1 := by omega
      subst this; subst hj
      simpa [bl_one] using h
    · rename_i h1
      have hb : bc = bl q := by
        rcases hbc with hb | ⟨k, rfl⟩
        · exact hb
        · cases k with
          | zero => exact absurd rfl h1
          | succ k => rw [Nat.pow_succ] at hodd; omega
      subst hb
      simpa using h
  · have e1 : Builtin.bitAnd (q : Int) 1 = 0 := by rw [and_one, show q % 2 = 0 by omega]; rfl
    have ht := T_trailing P (n := n) hq
    repeat' walk_at "bw1"
    · refine ⟨_, ht, ?_⟩
      have e2 : (q : Int).fdiv (2 ^ (tz q)) = od q := by
        rw [shr_floor]
        congr 1
        have := od_tz q
        exact Nat.div_eq_of_eq_mul_left (pow_pos' _) this.symm
      repeat' walk_at "bw1"
      · rename_i j hj j₁ hj₁ j₂ hj₂ j₃ hj₃ h1 j₄ hj₄
        subst hj
        rw [Int.toNat_natCast, e2] at hj₁
        subst hj₁ hj₂ hj₄
        have : od q = 1 := by omega
        rw [this, bl_one] at h
        rw [h1]; exact h
      · rename_i j hj j₁ hj₁ j₂ hj₂ j₃ hj₃ h1
        subst hj
        rw [Int.toNat_natCast, e2] at hj₁
        subst hj₁ hj₂
        have hb : bc = bl q := by
          rcases hbc with hb | ⟨k, rfl⟩
          · exact hb
          · exfalso
            apply h1
            have := od_mul (n := 1) (by decide) k
            rw [Nat.one_mul] at this
            rw [this, od_odd' (n := 1) rfl]; rfl
        have hj₃' : j₃ = bl (od q) := by rw [hj₃, hb, bl_od hq]; omega
        subst hj₃'
        exact h

theorem fp_sg {N : Int} {q : Nat} (hq : q ≠ 0) (t : Int) : fp (sg N q) t = .tup [.int (if N < 0 then 1 else 0), .int (od q), .int (t + tz q), .int (bl (od q))] := by
  have h : sg N q ≠ 0 := by unfold sg; split <;> omega
  rw [fp_ne h, sg_ne]
  have : (sg N q < 0) = (N < 0) := by unfold sg; apply propext; split <;> omega
  simp only [this]

theorem T_normalize0 (P : Prog c) {n p m : Nat} {b up : Bool} {e : Int} (hm : m ≠ 0) (hp : 1 ≤ p) (he : -2000 ≤ e) (hp2 : p ≤ 3000) :
    Tell c (n + 2) "_normalize" [.int (sI b), .int m, .int e, .int (bl m), .int p, rn up] (Z up p (sN b m) 1 e) := by
  have g1 := P.g_fzero; have g2 := P.g_round_nearest; have g3 := P.g_MPZ_ONE; have g4 := P.sd_f; have g5 := P.sd_c; have f1 := P.is_trailing
  refine P.t_normalize06 (n + 1) _ _ _ _ _ _ _ ?_
  unfold c_normalize0
  have hN : sN b m ≠ 0 := by unfold sN; split <;> omega
  have hNa : (sN b m).natAbs = m := by unfold sN; split <;> omega
  have hs : (if sN b m < 0 then (1 : Int) else 0) = sI b := by unfold sN sI; cases b <;> simp <;> omega
  rcases Nat.lt_or_ge p (bl m) with hlt | hge
  · obtain ⟨k, hk⟩ : ∃ k, bl m = p + k := ⟨bl m - p, by omega⟩
    have hZ := Z_cut (up := up) (e := e) hN hp (by rw [hNa]; exact hk) (by omega)
    have hr := rdiv_range (away := (up == decide (0 < sN b m))) hm hp hk
    have hq : rdiv (up == decide (0 < sN b m)) m (2 ^ k) ≠ 0 := by have := pow_pos' (p - 1); omega
    rw [hNa, fp_sg hq, hs] at hZ
    have hbl : (p : Int) = bl (rdiv (up == decide (0 < sN b m)) m (2 ^ k)) ∨ ∃ i, rdiv (up == decide (0 < sN b m)) m (2 ^ k) = 2 ^ i := by
      rcases rdiv_bl (away := (up == decide (0 < sN b m))) hm hp hk with h | h
      · left; rw [h]
      · right; exact ⟨p, h⟩
    have hda : decide (0 < sN b m) = !b := by unfold sN; cases b <;> simp <;> omega
    rw [hda] at hZ hq hbl
    have hfl := shr_floor m k
    have hce := shr_ceil m k
    rw [hZ]
    cases up <;> cases b <;> simp only [rn, sI, if_true, if_false, Bool.false_eq_true]
    all_goals repeat' first
      | ((with_reducible apply tail_norm P hq); (· exact rfl); (· (subst_vars; rw [show ((bl m : Int) - p).toNat = k by omega]; first | exact hfl | exact hce)); (· (subst_vars; exact hbl)))
      | walk_at "bw1"
    all_goals (subst_vars; rw [show ((bl m : Int) - p) = k by omega]; try rfl)
  · have hZ := Z_fits (up := up) (e := e) hN hp (by rw [hNa]; exact hge) (by omega)
    rw [fp_ne hN, hNa, hs] at hZ
    rw [hZ]
    cases up <;> cases b <;> simp only [rn, sI, if_true, if_false, Bool.false_eq_true]
    all_goals repeat' first
      | ((with_reducible apply tail_norm P hm); (· exact rfl); (· exact rfl); (· exact .inl rfl))
      | walk_at "bw1"
    all_goals (subst_vars; rfl)

theorem T_normalize (P : Prog c) {n p m : Nat} {b up : Bool} {e : Int} (hm : m ≠ 0) (hp : 1 ≤ p) (he : -2000 ≤ e) (hp2 : p ≤ 3000) :
    Tell c (n + 3) "normalize" [.int (sI b), .int m, .int e, .int (bl m), .int p, rn up] (Z up p (sN b m) 1 e) := by
  have f1 := P.is_normalize0
  refine P.t_normalize6 (n + 2) _ _ _ _ _ _ _ ?_
  unfold c_normalize
  have hT := T_normalize0 P (n := n) (b := b) (up := up) hm hp he hp2
  have hb : (Builtin.Int.intBits (m : Int) : Int) = bl m := by rw [intBits_eq]; rfl
  repeat' walk_at "bw1"
  exact ⟨_, hT, rfl⟩
/-- with as many bits as there are -/
theorem Z_own {up : Bool} {N e : Int} (hN : N ≠ 0) (he : -4000 ≤ e) (hb : bl N.natAbs ≤ 1000) : Z up (bl N.natAbs) N 1 e = fp N e := by
  have := bl_pos (n := N.natAbs) (by omega)
  exact Z_fits hN (by omega) (Nat.le_refl _) (by omega)
end
end
section
open PySem PySem.W PySem.Calls PyProof.Rows PySem.SeqAt
local macro_rules | `(tactic| walk_at "bwO") => `(tactic| skip)
local macro_rules | `(tactic| walk_at "bwO") => `(tactic| first | (exfalso; omega) | fail)
local macro_rules | `(tactic| walk_at "bwB") => `(tactic| first | ((with_reducible refine' b_mod ?h0 ?_); (case h0 => omega)) | fail)
local macro_rules | `(tactic| walk_at "bwB") => `(tactic| first | ((with_reducible apply b_pow); (· omega); (· with_reducible assumption)) | fail)
local macro_rules | `(tactic| walk_at "bwB") => `(tactic| first | ((with_reducible apply b_mul); (· first | with_reducible assumption | with_reducible exact mulOk00)) | fail)
local macro_rules | `(tactic| walk_at "bwB") => `(tactic| first | ((with_reducible refine' b_shl ?h0 ?h1 ?_); (case h0 => omega); (case h1 => omega)) | fail)
local macro_rules | `(tactic| walk_at "bwB") => `(tactic| first | ((with_reducible refine' b_shr ?h0 ?_); (case h0 => omega)) | fail)
local macro_rules | `(tactic| walk_at "bwB") => `(tactic| first | (with_reducible refine b_xor ?_) | fail)
local macro_rules | `(tactic| walk_at "bwB") => `(tactic| first | (with_reducible refine b_and ?_) | fail)
local macro_rules | `(tactic| walk_at "bwB") => `(tactic| first | (with_reducible refine b_sub ?_) | fail)
local macro_rules | `(tactic| walk_at "bwB") => `(tactic| first | (with_reducible refine b_add ?_) | fail)
local macro_rules | `(tactic| walk_at "bwC") => `(tactic| first | ((with_reducible refine' c_seqN ?hx ?_); (case hx => decide)) | fail)
local macro_rules | `(tactic| walk_at "bwC") => `(tactic| first | (with_reducible refine c_seqY ?_) | fail)
local macro_rules | `(tactic| walk_at "bwC") => `(tactic| first | ((with_reducible refine c_ge ?_ ?_) <;> intro _h <;> walk_at "bwO") | fail)
local macro_rules | `(tactic| walk_at "bwC") => `(tactic| first | ((with_reducible refine c_gt ?_ ?_) <;> intro _h <;> walk_at "bwO") | fail)
local macro_rules | `(tactic| walk_at "bwC") => `(tactic| first | ((with_reducible refine c_le ?_ ?_) <;> intro _h <;> walk_at "bwO") | fail)
local macro_rules | `(tactic| walk_at "bwC") => `(tactic| first | ((with_reducible refine c_lt ?_ ?_) <;> intro _h <;> walk_at "bwO") | fail)
local macro_rules | `(tactic| walk_at "bwC") => `(tactic| first | ((with_reducible refine c_ne ?_ ?_) <;> intro _h <;> walk_at "bwO") | fail)
local macro_rules | `(tactic| walk_at "bwC") => `(tactic| first | ((with_reducible refine c_eq ?_ ?_) <;> intro _h <;> walk_at "bwO") | fail)
local macro_rules | `(tactic| walk_at "bwH") => `(tactic| first | ((with_reducible refine r_tb ?_ ?_) <;> intro _h) | fail)
local macro_rules | `(tactic| walk_at "bwH") => `(tactic| first | ((with_reducible refine r_ti ?_ ?_) <;> intro _h <;> walk_at "bwO") | fail)
local macro_rules | `(tactic| walk_at "bwH") => `(tactic| first | (with_reducible refine r_tbf ?_) | fail)
local macro_rules | `(tactic| walk_at "bwH") => `(tactic| first | (with_reducible refine r_tbt ?_) | fail)
local macro_rules | `(tactic| walk_at "bwT") => `(tactic| first | (with_reducible refine r_tisInt ?_) | fail)
local macro_rules | `(tactic| walk_at "bwT") => `(tactic| first | (with_reducible refine r_tbin ?_) | fail)
local macro_rules | `(tactic| walk_at "bwT") => `(tactic| first | ((with_reducible refine' r_tvar ?hx ?_); (case hx => exact rfl)) | fail)
local macro_rules | `(tactic| walk_at "bwT") => `(tactic| first | (with_reducible refine r_tcmp2 ?_) | fail)
local macro_rules | `(tactic| walk_at "bwT") => `(tactic| first | (with_reducible refine r_tcmp ?_) | fail)
local macro_rules | `(tactic| walk_at "bwT") => `(tactic| first | (with_reducible refine r_tite ?_) | fail)
local macro_rules | `(tactic| walk_at "bwT") => `(tactic| first | (with_reducible refine r_tor ?_) | fail)
local macro_rules | `(tactic| walk_at "bwT") => `(tactic| first | (with_reducible refine r_tand ?_) | fail)
local macro_rules | `(tactic| walk_at "bwT") => `(tactic| first | (with_reducible refine r_tnt ?_) | fail)
local macro_rules | `(tactic| walk_at "bwT") => `(tactic| first | (with_reducible refine r_tsub ?_) | fail)
local macro_rules | `(tactic| walk_at "bwT") => `(tactic| first | ((with_reducible refine' r_tcall ?hx ?_); (case hx => with_reducible assumption)) | fail)
local macro_rules | `(tactic| walk_at "bwY") => `(tactic| first | ((with_reducible refine' r_key ?hx ?_); (case hx => with_reducible assumption)) | fail)
local macro_rules | `(tactic| walk_at "bwE") => `(tactic| first | ((with_reducible refine' r_dget ?hx ?_); (case hx => exact ⟨_, _, by with_reducible assumption⟩)) | fail)
local macro_rules | `(tactic| walk_at "bwE") => `(tactic| first | (with_reducible refine r_sub ?_) | fail)
local macro_rules | `(tactic| walk_at "bwE") => `(tactic| first | (with_reducible refine r_list ?_) | fail)
local macro_rules | `(tactic| walk_at "bwE") => `(tactic| first | (with_reducible refine r_tup ?_) | fail)
local macro_rules | `(tactic| walk_at "bwE") => `(tactic| first | ((with_reducible refine' r_call ?hx ?_); (case hx => with_reducible assumption)) | fail)
local macro_rules | `(tactic| walk_at "bwE") => `(tactic| first | (with_reducible refine r_ite ?_) | fail)
local macro_rules | `(tactic| walk_at "bwE") => `(tactic| first | (with_reducible refine r_or ?_) | fail)
local macro_rules | `(tactic| walk_at "bwE") => `(tactic| first | (with_reducible refine r_and ?_) | fail)
local macro_rules | `(tactic| walk_at "bwE") => `(tactic| first | (with_reducible refine r_cmp ?_) | fail)
local macro_rules | `(tactic| walk_at "bwE") => `(tactic| first | (with_reducible refine r_nt ?_) | fail)
local macro_rules | `(tactic| walk_at "bwE") => `(tactic| first | (with_reducible refine r_abs ?_) | fail)
local macro_rules | `(tactic| walk_at "bwE") => `(tactic| first | (with_reducible refine r_toInt ?_) | fail)
local macro_rules | `(tactic| walk_at "bwE") => `(tactic| first | (with_reducible refine r_bitlen ?_) | fail)
local macro_rules | `(tactic| walk_at "bwE") => `(tactic| first | (with_reducible refine r_neg ?_) | fail)
local macro_rules | `(tactic| walk_at "bwE") => `(tactic| first | (with_reducible refine r_bin ?_) | fail)
local macro_rules | `(tactic| walk_at "bwE") => `(tactic| first | ((with_reducible refine' r_glob ?hx ?_); (case hx => with_reducible assumption)) | fail)
local macro_rules | `(tactic| walk_at "bwE") => `(tactic| first | ((with_reducible refine' r_var ?hx ?_); (case hx => exact rfl)) | fail)
local macro_rules | `(tactic| walk_at "bwE") => `(tactic| first | (with_reducible refine r_cst ?_) | fail)
local macro_rules | `(tactic| walk_at "bwU") => `(tactic| first | ((with_reducible refine' r_subL ?h0 ?h1 ?hx ?_); (case h0 => decide); (case h1 => decide); (case hx => exact rfl)) | fail)
local macro_rules | `(tactic| walk_at "bwU") => `(tactic| first | ((with_reducible refine' r_subT ?h0 ?h1 ?hx ?_); (case h0 => decide); (case h1 => decide); (case hx => exact rfl)) | fail)
local macro_rules | `(tactic| walk_at "bwL") => `(tactic| first | (with_reducible refine r_cons ?_) | fail)
local macro_rules | `(tactic| walk_at "bwL") => `(tactic| first | (with_reducible refine r_nil ?_) | fail)
local macro_rules | `(tactic| walk_at "bw1") => `(tactic| first | (with_reducible refine r_dInt ?_) | fail)
local macro_rules | `(tactic| walk_at "bw1") => `(tactic| first | ((with_reducible refine r_dTup ?_); refine ⟨rfl, ?_⟩) | fail)
local macro_rules | `(tactic| walk_at "bwN") => `(tactic| first | (with_reducible refine r_name ?_) | fail)
local macro_rules | `(tactic| walk_at "bwN") => `(tactic| first | ((with_reducible refine r_nameI ?_); intro _ _) | fail)
local macro_rules | `(tactic| walk_at "bwP") => `(tactic| first | (with_reducible refine r_putNil ?_) | fail)
local macro_rules | `(tactic| walk_at "bwP") => `(tactic| first | (with_reducible refine r_putAll' ?_) | fail)
local macro_rules | `(tactic| walk_at "bwP") => `(tactic| first | (with_reducible refine r_rev2 ?_) | fail)
local macro_rules | `(tactic| walk_at "bwP") => `(tactic| first | ((with_reducible apply r_putA); (· dsimp only [put])) | fail)
local macro_rules | `(tactic| walk_at "bwS") => `(tactic| first | ((with_reducible refine' r_aug ?hx ?_); (case hx => exact rfl)) | fail)
local macro_rules | `(tactic| walk_at "bwS") => `(tactic| first | (with_reducible refine r_unpR ?_) | fail)
local macro_rules | `(tactic| walk_at "bwS") => `(tactic| first | (with_reducible refine r_unp ?_) | fail)
local macro_rules | `(tactic| walk_at "bwS") => `(tactic| first | (with_reducible refine r_asrt ?_) | fail)
local macro_rules | `(tactic| walk_at "bwS") => `(tactic| first | (with_reducible refine r_asg2 ?_) | fail)
local macro_rules | `(tactic| walk_at "bwS") => `(tactic| first | (with_reducible refine r_asg ?_) | fail)
local macro_rules | `(tactic| walk_at "bwS") => `(tactic| first | (with_reducible refine r_ret ?_) | fail)
local macro_rules | `(tactic| walk_at "bwS") => `(tactic| first | (with_reducible refine r_done ?_) | fail)
local macro_rules | `(tactic| walk_at "bwS") => `(tactic| first | (with_reducible refine r_ifs ?_) | fail)
local macro_rules | `(tactic| walk_at "bwS") => `(tactic| first | ((with_reducible apply r_put); (· dsimp only [put])) | fail)
local macro_rules | `(tactic| walk_at "bwK") => `(tactic| first | (with_reducible refine r_rt ?_) | fail)
local macro_rules | `(tactic| walk_at "bw1") => `(tactic| first | ((with_reducible change dKey _ _ _ _); walk_at "bwY") | fail)
local macro_rules | `(tactic| walk_at "bw1") => `(tactic| first | ((with_reducible change dSub _ _ _); walk_at "bwU") | fail)
local macro_rules | `(tactic| walk_at "bw1") => `(tactic| first | ((with_reducible change kn _ _ _ _ _ _ _); walk_at "bwK") | fail)
local macro_rules | `(tactic| walk_at "bw1") => `(tactic| first | ((with_reducible change dTruth _ _ _); walk_at "bwH") | fail)
local macro_rules | `(tactic| walk_at "bw1") => `(tactic| first | ((with_reducible change pT _ _ _ _ _ _ _ _); walk_at "bwT") | fail)
local macro_rules | `(tactic| walk_at "bw1") => `(tactic| first | ((with_reducible change putAll _ _ _ _); walk_at "bwP") | fail)
local macro_rules | `(tactic| walk_at "bw1") => `(tactic| first | ((with_reducible change nameD _ _); walk_at "bwN") | fail)
local macro_rules | `(tactic| walk_at "bw1") => `(tactic| first | ((with_reducible change dBin _ _ _ _); walk_at "bwB") | fail)
local macro_rules | `(tactic| walk_at "bw1") => `(tactic| first | ((with_reducible change dCmp _ _ _ _ _); walk_at "bwC") | fail)
local macro_rules | `(tactic| walk_at "bw1") => `(tactic| first | ((with_reducible change pS _ _ _ _ _ _ _); walk_at "bwS") | fail)
local macro_rules | `(tactic| walk_at "bw1") => `(tactic| first | ((with_reducible change pL _ _ _ _ _ _ _); walk_at "bwL") | fail)
local macro_rules | `(tactic| walk_at "bw1") => `(tactic| first | ((with_reducible change pE _ _ _ _ _ _ _); walk_at "bwE") | fail)
section
open PySem PySem.W PySem.Calls PyProof.Rows PySem.SeqAt
theorem mulOk {a b : Int} (h : bl a.natAbs + bl b.natAbs ≤ 100000) : IntMulOk a b := by
  unfold IntMulOk
  rw [intBits_eq, intBits_eq]
  intro hc
  simp only [Bool.and_eq_true, decide_eq_true_eq] at hc
  have h2 := hc.2
  unfold Builtin.Int.intTooBig at h2
  simp only [decide_eq_true_eq] at h2
  have h3 : (PySem.bitsLine : Int) ≥ 1000000 := by decide
  omega


abbrev raw (b : Bool) (o : Nat) (t : Int) : D := .tup [.int (sI b), .int o, .int t, .int (bl o)]
section
variable {c : Cx}
theorem fp_raw {w : Int} (h : w ≠ 0) (e : Int) : fp w e = raw (decide (w < 0)) (od w.natAbs) (e + tz w.natAbs) := by
  rw [fp_ne h]; simp [raw, sI]
theorem sN_od (w : Int) : sN (decide (w < 0)) (od w.natAbs) * 2 ^ tz w.natAbs = w := by
  have h := od_tz w.natAbs
  rw [pow_cast]
  unfold sN
  split
  · rename_i hn
    have hn : w < 0 := by simpa using hn
    rw [Int.neg_mul, ← Int.natCast_mul, h]; omega
  · rename_i hn
    have hn : ¬ w < 0 := by simpa using hn
    rw [← Int.natCast_mul, h]; omega
theorem Z_shift {up : Bool} {p : Nat} {N e : Int} (he : -5000 ≤ e) (k : Nat) : Z up p (N * 2 ^ k) 1 e = Z up p N 1 (e + k) := by
  rcases Nat.eq_zero_or_pos p with rfl | hp
  · rw [Z_exact, Z_exact, fp_shift]
  · refine Z_same hp (by decide) (by decide) ?_
    rw [P2_add he]
    push_cast
    rw [Int.mul_assoc N, Int.mul_comm]
theorem Z_raw {up : Bool} {p : Nat} {w e : Int} (he : -5000 ≤ e) : Z up p (sN (decide (w < 0)) (od w.natAbs)) 1 (e + tz w.natAbs) = Z up p w 1 e := by
  rw [← Z_shift he, sN_od]
theorem raw_fp {b : Bool} {o : Nat} (ho : o % 2 = 1) (t : Int) : raw b o t = fp (sN b o) t := by
  have h : sN b o ≠ 0 := by unfold sN; split <;> omega
  have hn : (sN b o).natAbs = o := by unfold sN; split <;> omega
  rw [fp_ne h, hn, od_odd' ho, tz_odd ho]
  have : (if sN b o < 0 then (1 : Int) else 0) = sI b := by unfold sN sI; cases b <;> simp <;> omega
  rw [this]; simp [raw]

theorem T_norm (P : Prog c) {n p m : Nat} {b up : Bool} {e is im ibc ip : Int} (hm : m ≠ 0) (hp : 1 ≤ p) (he : -2000 ≤ e) (hp2 : p ≤ 3000) (h1 : is = sI b) (h2 : im = m) (h3 : ibc = bl m) (h4 : ip = p) :
    Tell c (n + 3) "normalize" [.int is, .int im, .int e, .int ibc, .int ip, rn up] (Z up p (sN b m) 1 e) := by
  subst h1 h2 h3 h4; exact T_normalize P hm hp he hp2
theorem T_norm00 (P : Prog c) {n : Nat} {s e p : Int} {r : D} : Tell c (n + 1) "_normalize" [.int s, .int 0, .int e, .int 0, .int p, r] fz := by
  have g1 := P.g_fzero
  refine P.t_normalize06 n _ _ _ _ _ _ _ ?_
  unfold c_normalize0
  repeat' walk_at "bw1"
  all_goals rfl
theorem T_norm0 (P : Prog c) {n : Nat} {s e p : Int} {r : D} : Tell c (n + 2) "normalize" [.int s, .int 0, .int e, .int 0, .int p, r] fz := by
  have f1 := P.is_normalize0
  refine P.t_normalize6 (n + 1) _ _ _ _ _ _ _ ?_
  unfold c_normalize
  have hb : (Builtin.Int.intBits 0 : Int) = 0 := rfl
  have hT := T_norm00 P (n := n) (s := s) (e := e) (p := p) (r := r)
  repeat' walk_at "bw1"
  exact ⟨_, hT, rfl⟩

theorem T_pos (P : Prog c) {n p : Nat} {w e : Int} {up : Bool} (he : -2000 ≤ e) (hp : p ≤ 3000) : Tell c (n + 4) "mpf_pos" [fp w e, .int p, rn up] (Z up p w 1 e) := by
  have f1 := P.is_normalize
  refine P.t_mpf_pos3 (n + 3) _ _ _ _ ?_
  unfold c_mpf_pos
  rcases Nat.eq_zero_or_pos p with rfl | hp0
  · rw [Z_exact]
    repeat' walk_at "bw1"
    rfl
  · by_cases hw : w = 0
    · subst hw
      rw [fp_zero, Z_zero]
      repeat' walk_at "bw1"
      exact ⟨_, T_norm0 P, rfl⟩
    · rw [fp_raw hw, ← Z_raw (by omega)]
      have ho := od_pos (n := w.natAbs) (by omega)
      generalize od w.natAbs = o at ho
      generalize tz w.natAbs = t
      generalize decide (w < 0) = b
      repeat' walk_at "bw1"
      exact ⟨_, T_norm P (b := b) (m := o) (p := p) (by omega) (by omega) (by omega) hp rfl rfl rfl rfl, rfl⟩

theorem sN_not {b : Bool} {o : Nat} : sN (!b) o = -sN b o := by unfold sN; cases b <;> simp
theorem T_neg1 (P : Prog c) {n : Nat} {w e : Int} : Tell c (n + 1) "mpf_neg" [fp w e] (fp (-w) e) := by
  have f1 := P.is_normalize
  refine P.t_mpf_neg1 n _ _ ?_
  unfold c_mpf_neg
  by_cases hw : w = 0
  · subst hw
    rw [fp_zero]
    repeat' walk_at "bw1"
    rfl
  · have hw' : -w ≠ 0 := by omega
    rw [fp_raw hw, fp_raw hw', Int.natAbs_neg]
    have ho := od_pos (n := w.natAbs) (by omega)
    have hb : decide (-w < 0) = !decide (w < 0) := by rw [Bool.eq_iff_iff]; simp; omega
    rw [hb]
    generalize od w.natAbs = o at ho
    generalize tz w.natAbs = t
    generalize decide (w < 0) = b
    repeat' walk_at "bw1"
    cases b <;> rfl
theorem T_neg3 (P : Prog c) {n p : Nat} {w e : Int} {up : Bool} (he : -2000 ≤ e) (hp : p ≤ 3000) : Tell c (n + 4) "mpf_neg" [fp w e, .int p, rn up] (Z up p (-w) 1 e) := by
  have f1 := P.is_normalize
  refine P.t_mpf_neg3 (n + 3) _ _ _ _ ?_
  unfold c_mpf_neg
  by_cases hw : w = 0
  · subst hw
    rw [fp_zero, Int.neg_zero, Z_zero]
    repeat' walk_at "bw1"
    rfl
  · have hw' : -w ≠ 0 := by omega
    rw [fp_raw hw]
    have ho := od_pos (n := w.natAbs) (by omega)
    have hb : decide (-w < 0) = !decide (w < 0) := by rw [Bool.eq_iff_iff]; simp; omega
    rcases Nat.eq_zero_or_pos p with rfl | hp0
    · rw [Z_exact, fp_raw hw', hb, Int.natAbs_neg]
      generalize od w.natAbs = o at ho
      generalize tz w.natAbs = t
      generalize decide (w < 0) = b
      repeat' walk_at "bw1"
      cases b <;> rfl
    · rw [← Z_raw (w := -w) (by omega), hb, Int.natAbs_neg]
      generalize od w.natAbs = o at ho
      generalize tz w.natAbs = t
      generalize decide (w < 0) = b
      repeat' walk_at "bw1"
      exact ⟨_, T_norm P (b := !b) (m := o) (p := p) (by omega) (by omega) (by omega) hp (by cases b <;> rfl) rfl rfl rfl, rfl⟩
theorem T_sign (P : Prog c) {n : Nat} {w e : Int} : Tell c (n + 1) "mpf_sign" [fp w e] (.int w.sign) := by
  have g1 := P.g_finf
  have g2 := P.g_fninf
  refine P.t_mpf_sign1 n _ _ ?_
  unfold c_mpf_sign
  by_cases hw : w = 0
  · subst hw
    rw [fp_zero]
    repeat' walk_at "bw1"
    refine c_teqN rfl rfl (by simp) ?_
    repeat' walk_at "bw1"
    refine c_teqN rfl rfl (by simp) ?_
    repeat' walk_at "bw1"
    rfl
  · rw [fp_raw hw]
    have ho := od_pos (n := w.natAbs) (by omega)
    have hs : w.sign = if decide (w < 0) = true then -1 else 1 := by
      split
      · rename_i h; exact Int.sign_eq_neg_one_of_neg (by simpa using h)
      · rename_i h; exact Int.sign_eq_one_of_pos (by have : ¬ w < 0 := by simpa using h
                                                     omega)
    rw [hs]
    generalize od w.natAbs = o at ho
    generalize tz w.natAbs = t
    generalize decide (w < 0) = b
    have e1 : (Builtin.Int.intBits (-1) : Int) = 1 := by decide
    cases b
    · have h1 : PowOk (-1) 0 := PowOk.of (n := 1) (k := 0) (by decide) (by decide) (by decide) (by decide)
      repeat' walk_at "bw1"
      exact b_pow (a := -1) (b := 0) (by decide) h1 rfl
    · have h1 : PowOk (-1) 1 := PowOk.of (n := 1) (k := 1) (by decide) (by decide) (by decide) (by decide)
      repeat' walk_at "bw1"
      exact b_pow (a := -1) (b := 1) (by decide) h1 rfl

theorem xor_sI (a b : Bool) : Builtin.bitXor (sI a) (sI b) = sI (a != b) := by cases a <;> cases b <;> rfl
theorem sN_mul (a b : Bool) (x y : Nat) : sN a x * sN b y = sN (a != b) (x * y) := by
  unfold sN; cases a <;> cases b <;> simp [Int.neg_mul, Int.mul_neg]
theorem odd_mul {x y : Nat} (hx : x % 2 = 1) (hy : y % 2 = 1) : x * y % 2 = 1 := by rw [Nat.mul_mod, hx, hy]
theorem fp_mul {w₁ w₂ : Int} : sN (decide (w₁ < 0)) (od w₁.natAbs) * sN (decide (w₂ < 0)) (od w₂.natAbs) * 2 ^ (tz w₁.natAbs + tz w₂.natAbs) = w₁ * w₂ := by
  have h1 := sN_od w₁
  have h2 := sN_od w₂
  rw [Int.pow_add]
  generalize sN (decide (w₁ < 0)) (od w₁.natAbs) = a at *
  generalize sN (decide (w₂ < 0)) (od w₂.natAbs) = b at *
  rw [show a * b * (2 ^ tz w₁.natAbs * 2 ^ tz w₂.natAbs) = (a * 2 ^ tz w₁.natAbs) * (b * 2 ^ tz w₂.natAbs) by ac_rfl, h1, h2]

theorem T_mulz (P : Prog c) {n : Nat} {w e p : Int} {r : D} : Tell c (n + 1) "mpf_mul" [fz, fp w e, .int p, r] fz ∧ Tell c (n + 1) "mpf_mul" [fp w e, fz, .int p, r] fz ∧ Tell c (n + 1) "mpf_mul" [fz, fp w e] fz ∧ Tell c (n + 1) "mpf_mul" [fp w e, fz] fz := by
  have f1 := P.is_normalize
  have f2 := P.g_fzero
  by_cases hw : w = 0
  · subst hw
    rw [fp_zero]
    refine ⟨?_, ?_, ?_, ?_⟩
    · refine P.t_mpf_mul4 n _ _ _ _ _ ?_
      unfold c_mpf_mul
      repeat' walk_at "bw1"
      all_goals rfl
    · refine P.t_mpf_mul4 n _ _ _ _ _ ?_
      unfold c_mpf_mul
      repeat' walk_at "bw1"
      all_goals rfl
    · refine P.t_mpf_mul2 n _ _ _ ?_
      unfold c_mpf_mul
      repeat' walk_at "bw1"
      all_goals rfl
    · refine P.t_mpf_mul2 n _ _ _ ?_
      unfold c_mpf_mul
      repeat' walk_at "bw1"
      all_goals rfl
  · rw [fp_raw hw]
    have ho := od_pos (n := w.natAbs) (by omega)
    generalize od w.natAbs = o at ho
    generalize tz w.natAbs = t
    generalize decide (w < 0) = b
    have m1 : IntMulOk 0 o := IntMulOk.of_left (by decide)
    have m2 : IntMulOk o 0 := IntMulOk.of_right (by decide)
    refine ⟨?_, ?_, ?_, ?_⟩
    · refine P.t_mpf_mul4 n _ _ _ _ _ ?_
      unfold c_mpf_mul
      repeat' walk_at "bw1"
      all_goals rfl
    · refine P.t_mpf_mul4 n _ _ _ _ _ ?_
      unfold c_mpf_mul
      repeat' walk_at "bw1"
      all_goals rfl
    · refine P.t_mpf_mul2 n _ _ _ ?_
      unfold c_mpf_mul
      repeat' walk_at "bw1"
      all_goals rfl
    · refine P.t_mpf_mul2 n _ _ _ ?_
      unfold c_mpf_mul
      repeat' walk_at "bw1"
      all_goals rfl

theorem T_mul4 (P : Prog c) {n p : Nat} {w₁ w₂ e₁ e₂ : Int} {up : Bool} (h1 : -900 ≤ e₁) (h2 : -900 ≤ e₂) (hp : p ≤ 3000) (hb : bl w₁.natAbs + bl w₂.natAbs ≤ 1000) :
    Tell c (n + 4) "mpf_mul" [fp w₁ e₁, fp w₂ e₂, .int p, rn up] (Z up p (w₁ * w₂) 1 (e₁ + e₂)) := by
  by_cases hw₁ : w₁ = 0
  · subst hw₁; rw [Int.zero_mul, Z_zero]; exact (T_mulz P (n := n + 3)).1
  by_cases hw₂ : w₂ = 0
  · subst hw₂; rw [Int.mul_zero, Z_zero]; exact (T_mulz P (n := n + 3)).2.1
  have f1 := P.is_normalize
  refine P.t_mpf_mul4 (n + 3) _ _ _ _ _ ?_
  unfold c_mpf_mul
  rw [← fp_mul, Z_shift (by omega), fp_raw hw₁, fp_raw hw₂, sN_mul]
  have ho₁ := od_pos (n := w₁.natAbs) (by omega)
  have ho₂ := od_pos (n := w₂.natAbs) (by omega)
  have hb₁ := bl_mono (od_le w₁.natAbs)
  have hb₂ := bl_mono (od_le w₂.natAbs)
  have o₁ := od_is_odd (n := w₁.natAbs) (by omega)
  have o₂ := od_is_odd (n := w₂.natAbs) (by omega)
  generalize od w₁.natAbs = x at *
  generalize od w₂.natAbs = y at *
  generalize tz w₁.natAbs = s
  generalize tz w₂.natAbs = t
  generalize decide (w₁ < 0) = a
  generalize decide (w₂ < 0) = b
  have hm : IntMulOk x y := mulOk (by simp only [Int.natAbs_natCast]; omega)
  have hxy : x * y ≠ 0 := Nat.mul_ne_zero (by omega) (by omega)
  have hxy' : (x : Int) * y ≠ 0 := by exact_mod_cast hxy
  have hbl : (Builtin.Int.intBits ((x : Int) * y)) = bl (x * y) := by rw [intBits_eq, Int.natAbs_mul]; rfl
  rcases Nat.eq_zero_or_pos p with rfl | hp0
  · rw [Z_exact, ← raw_fp (odd_mul o₁ o₂)]
    repeat' walk_at "bw1"
    all_goals subst_vars
    · rw [hbl, xor_sI]
      rw [show e₁ + (s : Int) + (e₂ + t) = e₁ + e₂ + ((s + t : Nat) : Int) by push_cast; omega]
      rfl
  · repeat' walk_at "bw1"
    all_goals subst_vars
    · refine ⟨_, T_norm P (b := a != b) (m := x * y) (p := p) (e := e₁ + s + (e₂ + t)) hxy (by omega) (by omega) hp (xor_sI a b) (by push_cast; rfl) (by rw [hbl]) rfl, ?_⟩
      rw [show e₁ + (s : Int) + (e₂ + t) = e₁ + e₂ + ((s + t : Nat) : Int) by push_cast; omega]
      rfl
theorem T_mul2 (P : Prog c) {n : Nat} {w₁ w₂ e₁ e₂ : Int} (hb : bl w₁.natAbs + bl w₂.natAbs ≤ 1000) :
    Tell c (n + 4) "mpf_mul" [fp w₁ e₁, fp w₂ e₂] (fp (w₁ * w₂) (e₁ + e₂)) := by
  by_cases hw₁ : w₁ = 0
  · subst hw₁; rw [Int.zero_mul, fp_zero]; exact (T_mulz P (n := n + 3) (p := 0) (r := .none)).2.2.1
  by_cases hw₂ : w₂ = 0
  · subst hw₂; rw [Int.mul_zero, fp_zero]; exact (T_mulz P (n := n + 3) (p := 0) (r := .none)).2.2.2
  have f1 := P.is_normalize
  refine P.t_mpf_mul2 (n + 3) _ _ _ ?_
  unfold c_mpf_mul
  rw [← fp_mul, fp_shift, fp_raw hw₁, fp_raw hw₂, sN_mul]
  have ho₁ := od_pos (n := w₁.natAbs) (by omega)
  have ho₂ := od_pos (n := w₂.natAbs) (by omega)
  have hb₁ := bl_mono (od_le w₁.natAbs)
  have hb₂ := bl_mono (od_le w₂.natAbs)
  have o₁ := od_is_odd (n := w₁.natAbs) (by omega)
  have o₂ := od_is_odd (n := w₂.natAbs) (by omega)
  generalize od w₁.natAbs = x at *
  generalize od w₂.natAbs = y at *
  generalize tz w₁.natAbs = s
  generalize tz w₂.natAbs = t
  generalize decide (w₁ < 0) = a
  generalize decide (w₂ < 0) = b
  have hm : IntMulOk x y := mulOk (by simp only [Int.natAbs_natCast]; omega)
  have hxy : x * y ≠ 0 := Nat.mul_ne_zero (by omega) (by omega)
  have hxy' : (x : Int) * y ≠ 0 := by exact_mod_cast hxy
  have hbl : (Builtin.Int.intBits ((x : Int) * y)) = bl (x * y) := by rw [intBits_eq, Int.natAbs_mul]; rfl
  rw [← raw_fp (odd_mul o₁ o₂)]
  repeat' walk_at "bw1"
  all_goals subst_vars
  · rw [hbl, xor_sI]
    rw [show e₁ + (s : Int) + (e₂ + t) = e₁ + e₂ + ((s + t : Nat) : Int) by push_cast; omega]
    rfl
end
end
section
open PySem PySem.W PySem.Calls PyProof.Rows PySem.SeqAt
section
variable {c : Cx}
theorem ibl (n : Nat) : (Builtin.Int.intBits (n : Int)) = bl n := by rw [intBits_eq]; rfl

/-- normalize on a signed whole number -/
theorem T_normI (P : Prog c) {n p : Nat} {up : Bool} {M e is im ibc ip : Int} (he : -2000 ≤ e) (hp : p ≤ 3000) (hM : bl M.natAbs ≤ 900) (hs : (is = 0 ∧ im = M ∧ 0 ≤ M) ∨ (is = 1 ∧ im = -M ∧ M ≤ 0))
    (h3 : ibc = Builtin.Int.intBits im) (h4 : (p ≠ 0 ∧ ip = p) ∨ (p = 0 ∧ ip = ibc)) :
    Tell c (n + 3) "normalize" [.int is, .int im, .int e, .int ibc, .int ip, rn up] (Z up p M 1 e) := by
  by_cases h0 : M = 0
  · subst h0
    have : im = 0 := by omega
    subst this
    have : ibc = 0 := h3
    subst this
    rw [Z_zero]; exact T_norm0 P
  · have hm : M.natAbs ≠ 0 := by omega
    have him : im = (M.natAbs : Int) := by omega
    have hib : ibc = bl M.natAbs := by rw [h3, him, ibl]
    have hsg : is = sI (decide (M < 0)) := by
      rcases hs with ⟨a, b, d⟩ | ⟨a, b, d⟩
      · rw [a, decide_eq_false (by omega)]; rfl
      · rw [a, decide_eq_true (by omega)]; rfl
    have hN : sN (decide (M < 0)) M.natAbs = M := by
      unfold sN; by_cases hlt : M < 0
      · simp only [hlt, decide_true, if_true]; omega
      · simp only [hlt, decide_false, if_false, Bool.false_eq_true]; omega
    rcases h4 with ⟨a, b⟩ | ⟨a, b⟩
    · have := T_norm P (n := n) (b := decide (M < 0)) (up := up) (m := M.natAbs) (p := p) (e := e) hm (by omega) he hp hsg him hib b
      rw [hN] at this; exact this
    · subst a
      have hpos := bl_pos hm
      have := T_norm P (n := n) (b := decide (M < 0)) (up := up) (m := M.natAbs) (p := bl M.natAbs) (e := e) hm (by omega) he (by omega) hsg him hib (b.trans hib)
      rw [hN, Z_own h0 (by omega) (by omega)] at this
      rw [Z_exact]; exact this

theorem T_from_man_exp (P : Prog c) {n : Nat} {w e : Int} : Tell c (n + 2) "from_man_exp" [.int w, .int e] (fp w e) := by
  have f1 := P.is_normalize
  have f2 := P.is_trailing
  have g1 := P.g_fzero
  refine P.t_from_man_exp2 (n + 1) _ _ _ ?_
  unfold c_from_man_exp
  by_cases hw : w = 0
  · subst hw
    rw [fp_zero]
    repeat' walk_at "bw1"
    all_goals first | rfl | omega
  · obtain ⟨m, hm, hw'⟩ : ∃ m : Nat, m ≠ 0 ∧ (w = m ∨ w = -(m : Int)) := ⟨w.natAbs, by omega, by omega⟩
    have hev := T_trailing P (n := n) hm
    have hib := ibl m
    have h1 := and_one m
    have h2 := and_two m
    have hfp : ∀ b : Bool, w = sN b m → fp w e = raw b (od m) (e + tz m) := by
      rintro b rfl
      have hn : (sN b m).natAbs = m := by unfold sN; split <;> omega
      have hb : decide (sN b m < 0) = b := by unfold sN; cases b <;> simp <;> omega
      rw [fp_raw hw, hn, hb]
    have h3 : (m : Int).fdiv (2 ^ (tz m)) = od m := by
      rw [shr_floor]
      congr 1
      exact Nat.div_eq_of_eq_mul_left (pow_pos' _) (od_tz m).symm
    have hbl := bl_od hm
    have hf : fp w e = raw (decide (w < 0)) (od m) (e + tz m) := by
      rcases hw' with h | h
      · rw [decide_eq_false (by omega)]; exact hfp false h
      · rw [decide_eq_true (by omega)]; exact hfp true h
    rw [hf]
    clear hfp hf hw
    have fin : ∀ (b : Bool) (x y z : Int), x = od m → y = e + tz m → z = bl (od m) → Fl.rt (D.tup [.int (sI b), .int x, .int y, .int z]) = Fl.rt (raw b (od m) (e + tz m)) := by
      rintro b x y z rfl rfl rfl; rfl
    rcases hw' with rfl | rfl
    · rw [decide_eq_false (by omega)]
      repeat' walk_at "bw1"
      all_goals subst_vars
      · have : m % 2 = 1 := by omega
        exact fin false _ _ _ (by rw [od_odd' this]) (by rw [tz_odd this]; simp) (by rw [ibl, od_odd' this])
      · have q1 : m % 2 = 0 := by omega
        have q2 : m / 2 % 2 = 1 := by omega
        have t1 : tz m = 1 := by rw [tz_even hm q1, tz_odd q2]
        rw [t1] at h3 hbl
        exact fin false _ _ _ h3 (by rw [t1]; rfl) (by rw [ibl, hbl]; push_cast; omega)
      · refine ⟨_, hev, ?_⟩
        repeat' walk_at "bw1"
        all_goals subst_vars
        exact fin false _ _ _ h3 rfl (by rw [ibl, hbl]; push_cast; omega)
    · rw [decide_eq_true (by omega)]
      repeat' walk_at "bw1"
      all_goals subst_vars
      all_goals simp only [Int.neg_neg] at *
      · have : m % 2 = 1 := by omega
        exact fin true _ _ _ (by rw [od_odd' this]) (by rw [tz_odd this]; simp) (by rw [ibl, od_odd' this])
      · have q1 : m % 2 = 0 := by omega
        have q2 : m / 2 % 2 = 1 := by omega
        have t1 : tz m = 1 := by rw [tz_even hm q1, tz_odd q2]
        rw [t1] at h3 hbl
        exact fin true _ _ _ h3 (by rw [t1]; rfl) (by rw [ibl, hbl]; push_cast; omega)
      · refine ⟨_, hev, ?_⟩
        repeat' walk_at "bw1"
        all_goals subst_vars
        exact fin true _ _ _ h3 rfl (by rw [ibl, hbl]; push_cast; omega)
end
end
section
open PySem PySem.W PySem.Calls PyProof.Rows PySem.SeqAt
section
variable {c : Cx}

/-- the two numbers on a common exponent -/
theorem add_common {a b : Bool} {x y t k : Nat} : (sN a x * 2 ^ k + sN b y) * 2 ^ t = sN a x * 2 ^ (t + k) + sN b y * 2 ^ t := by
  rw [Int.add_mul, Int.mul_assoc, ← Int.pow_add, Nat.add_comm k t]

theorem sN_bl {a b : Bool} {x y k : Nat} (hx : bl x ≤ 100) (hy : bl y ≤ 100) (hk : k ≤ 100) : bl (sN a x * 2 ^ k + sN b y).natAbs ≤ 900 := by
  have h1 := bl_lt x
  have h2 := bl_lt y
  have h3 : (2 : Nat) ^ bl x ≤ 2 ^ 100 := Nat.pow_le_pow_right (by decide) hx
  have h4 : (2 : Nat) ^ bl y ≤ 2 ^ 100 := Nat.pow_le_pow_right (by decide) hy
  have h5 : (2 : Nat) ^ k ≤ 2 ^ 100 := Nat.pow_le_pow_right (by decide) hk
  have h6 : x * 2 ^ k ≤ 2 ^ 100 * 2 ^ 100 := Nat.mul_le_mul (by omega) h5
  refine Nat.le_trans (bl_le (k := 201) ?_) (by decide)
  have e : sN a x * 2 ^ k = sN a (x * 2 ^ k) := by
    unfold sN; cases a <;> simp [Int.neg_mul]
  rw [e]
  have e2 : (2 : Nat) ^ 201 = 2 ^ 100 * 2 ^ 100 + 2 ^ 100 * 2 ^ 100 := by decide
  have e3 : (2 : Nat) ^ 100 < 2 ^ 100 * 2 ^ 100 := by decide
  rw [e2]
  generalize x * 2 ^ k = X at *
  generalize (2 : Nat) ^ 100 * 2 ^ 100 = B at *
  unfold sN
  cases a <;> cases b <;> simp only [Bool.false_eq_true, if_false, if_true] <;> omega

set_option maxHeartbeats 2000000 in
theorem addCore (P : Prog c) {n p : Nat} {b₁ b₂ sb up : Bool} {x y s t : Nat} {e : Int} (hx : x ≠ 0) (hy : y ≠ 0) (he : -2000 ≤ e) (hp : p ≤ 3000) (hbx : bl x ≤ 100) (hby : bl y ≤ 100) (hs : s ≤ 100) (ht : t ≤ 100) :
    qS c (n + 3) c_mpf_add [some (raw b₁ x (e + s)), some (raw b₂ y (e + t)), some (.int p), some (rn up), some (.int (sI sb)), none, none, none, none, none, none, none, none, none, none, none, none, none, none, none]
      (fun fl => fl = .rt (Z up p (sN b₁ x * 2 ^ s + sN (b₂ != sb) y * 2 ^ t) 1 e)) := by
  have f1 := P.is_normalize
  have f2 := P.is_mpf_neg
  have f3 := P.g_fnan
  have hxor := xor_sI b₂ sb
  unfold c_mpf_add
  generalize hb : (b₂ != sb) = b at *
  have i1 : (Builtin.Int.intBits (x : Int) : Int) ≤ 100 := by rw [ibl]; omega
  have i2 : (Builtin.Int.intBits (y : Int) : Int) ≤ 100 := by rw [ibl]; omega
  clear hb
  rcases Nat.lt_trichotomy s t with hst | hst | hst
  · obtain ⟨k, rfl⟩ : ∃ k, t = s + k := ⟨t - s, by omega⟩
    have hM : bl (sN b y * 2 ^ k + sN b₁ x).natAbs ≤ 900 := sN_bl hby hbx (by omega)
    have hT := fun {is im ibc ip : Int} => T_normI P (n := n) (p := p) (up := up) (M := sN b y * 2 ^ k + sN b₁ x) (e := e + s) (is := is) (im := im) (ibc := ibc) (ip := ip) (by omega) hp hM
    rw [show sN b₁ x * 2 ^ s + sN b y * 2 ^ (s + k) = (sN b y * 2 ^ k + sN b₁ x) * 2 ^ s by rw [Int.add_mul, Int.mul_assoc, ← Int.pow_add, Nat.add_comm k s, Int.add_comm], Z_shift (by omega)]
    have hX : (0 : Int) ≤ (y : Int) * 2 ^ k := by rw [pow_cast]; exact_mod_cast Nat.zero_le _
    have hk : (-(e + (s : Int) - (e + ((s + k : Nat) : Int)))).toNat = k := by omega
    clear hM hbx hby
    repeat' walk_at "bw1"
    all_goals subst_vars
    all_goals refine ⟨_, hT ?_ rfl (by first | exact .inl ⟨by omega, rfl⟩ | exact .inr ⟨by omega, rfl⟩), rfl⟩
    all_goals clear hT
    all_goals simp only [hxor, hk] at *
    all_goals cases b₁ <;> cases b <;> simp only [sI, sN, if_true, if_false, Bool.false_eq_true, Int.neg_mul, true_and] at * <;> generalize (y : Int) * 2 ^ k = X at * <;> omega
  · subst hst
    have hM : bl (sN b₁ x * 2 ^ 0 + sN b y).natAbs ≤ 900 := sN_bl hbx hby (by omega)
    have hT := fun {is im ibc ip : Int} => T_normI P (n := n) (p := p) (up := up) (M := sN b₁ x * 2 ^ 0 + sN b y) (e := e + s) (is := is) (im := im) (ibc := ibc) (ip := ip) (by omega) hp hM
    rw [show sN b₁ x * 2 ^ s + sN b y * 2 ^ s = (sN b₁ x * 2 ^ 0 + sN b y) * 2 ^ s by rw [Int.add_mul]; simp, Z_shift (by omega)]
    simp only [Int.pow_zero, Int.mul_one] at hT ⊢
    clear hM hbx hby
    repeat' walk_at "bw1"
    all_goals subst_vars
    all_goals refine ⟨_, hT ?_ rfl (by first | exact .inl ⟨by omega, rfl⟩ | exact .inr ⟨by omega, rfl⟩), rfl⟩
    all_goals clear hT
    all_goals simp only [hxor] at *
    all_goals cases b₁ <;> cases b <;> simp only [sI, sN, if_true, if_false, Bool.false_eq_true, true_and] at * <;> omega
  · obtain ⟨k, rfl⟩ : ∃ k, s = t + k := ⟨s - t, by omega⟩
    have hM : bl (sN b₁ x * 2 ^ k + sN b y).natAbs ≤ 900 := sN_bl hbx hby (by omega)
    have hT := fun {is im ibc ip : Int} => T_normI P (n := n) (p := p) (up := up) (M := sN b₁ x * 2 ^ k + sN b y) (e := e + t) (is := is) (im := im) (ibc := ibc) (ip := ip) (by omega) hp hM
    rw [← add_common, Z_shift (by omega)]
    have hX : (0 : Int) ≤ (x : Int) * 2 ^ k := by rw [pow_cast]; exact_mod_cast Nat.zero_le _
    have hk : (e + ((t + k : Nat) : Int) - (e + (t : Int))).toNat = k := by omega
    clear hM hbx hby
    repeat' walk_at "bw1"
    all_goals subst_vars
    all_goals refine ⟨_, hT ?_ rfl (by first | exact .inl ⟨by omega, rfl⟩ | exact .inr ⟨by omega, rfl⟩), rfl⟩
    all_goals clear hT
    all_goals simp only [hxor, hk] at *
    all_goals cases b₁ <;> cases b <;> simp only [sI, sN, if_true, if_false, Bool.false_eq_true, Int.neg_mul, true_and] at * <;> generalize (x : Int) * 2 ^ k = X at * <;> omega

theorem sg_ite (w : Int) (sb : Bool) : (if sb then -w else w) = (if sb then -w else w) := rfl
/-- the sum or the difference of two numbers with one exponent -/
theorem addAll (P : Prog c) {n p : Nat} {w₁ w₂ e : Int} {sb up : Bool} (he : -2000 ≤ e) (hp : p ≤ 3000) (h1 : w₁.natAbs < 2 ^ 100) (h2 : w₂.natAbs < 2 ^ 100) :
    qS c (n + 3) c_mpf_add [some (fp w₁ e), some (fp w₂ e), some (.int p), some (rn up), some (.int (sI sb)), none, none, none, none, none, none, none, none, none, none, none, none, none, none, none]
      (fun fl => fl = .rt (Z up p (w₁ + (if sb then -w₂ else w₂)) 1 e)) := by
  have b1 := bl_le h1
  have b2 := bl_le h2
  by_cases hw₁ : w₁ = 0
  · subst hw₁
    have f1 := P.is_normalize
    have f2 := P.is_mpf_neg
    have f3 := P.g_fnan
    rw [fp_zero, Int.zero_add]
    by_cases hw₂ : w₂ = 0
    · subst hw₂
      have hn := T_neg1 P (n := n + 2) (w := 0) (e := e)
      rw [Int.neg_zero, fp_zero] at hn
      have : (if sb = true then -(0 : Int) else 0) = 0 := by cases sb <;> rfl
      rw [this, fp_zero, Z_zero]
      unfold c_mpf_add
      cases sb <;> simp only [sI, if_true, if_false, Bool.false_eq_true]
      · repeat' walk_at "bw1"
        rfl
      · repeat' walk_at "bw1"
        refine ⟨_, hn, ?_⟩
        repeat' walk_at "bw1"
        rfl
    · have hn := T_neg1 P (n := n + 2) (w := w₂) (e := e)
      rw [fp_raw hw₂] at hn ⊢
      have hm : bl (if sb = true then -w₂ else w₂).natAbs ≤ 900 := by split <;> (try rw [Int.natAbs_neg]) <;> omega
      have hz := Z_raw (up := up) (p := p) (w := if sb = true then -w₂ else w₂) (e := e) (by omega)
      rw [← hz]
      have ho := od_pos (n := w₂.natAbs) (by omega)
      have hob := bl_mono (od_le w₂.natAbs)
      have hnn : (if sb = true then -w₂ else w₂).natAbs = w₂.natAbs := by cases sb <;> simp
      have hdd : decide ((if sb = true then -w₂ else w₂) < 0) = (decide (w₂ < 0) != sb) := by
        rw [Bool.eq_iff_iff]; cases sb <;> simp <;> omega
      rw [hnn, hdd]
      have hxor := xor_sI (decide (w₂ < 0)) sb
      generalize hb : (decide (w₂ < 0) != sb) = b at *
      have hT := fun {ip : Int} (q : (p ≠ 0 ∧ ip = p) ∨ (p = 0 ∧ ip = bl (od w₂.natAbs))) => T_normI P (n := n) (p := p) (up := up) (M := sN b (od w₂.natAbs)) (e := e + tz w₂.natAbs) (is := sI b) (im := od w₂.natAbs) (ibc := bl (od w₂.natAbs)) (ip := ip) (by omega) hp
        (by unfold sN; split <;> (try rw [Int.natAbs_neg]) <;> rw [Int.natAbs_natCast] <;> omega) (by cases b <;> simp [sN, sI]) (by rw [ibl]) q
      clear hb hdd
      unfold c_mpf_add
      repeat' walk_at "bw1"
      all_goals first | (refine ⟨_, hn, ?_⟩) | skip
      all_goals repeat' walk_at "bw1"
      all_goals subst_vars
      all_goals rw [hxor]
      all_goals refine ⟨_, hT (by first | exact .inl ⟨by omega, rfl⟩ | exact .inr ⟨by omega, rfl⟩), rfl⟩
  · by_cases hw₂ : w₂ = 0
    · subst hw₂
      have f1 := P.is_normalize
      have f2 := P.is_mpf_neg
      have f3 := P.g_fnan
      have hn := T_neg1 P (n := n + 2) (w := 0) (e := e)
      rw [Int.neg_zero, fp_zero] at hn
      have : w₁ + (if sb = true then -(0 : Int) else 0) = w₁ := by cases sb <;> simp
      rw [this, fp_zero, fp_raw hw₁, ← Z_raw (w := w₁) (by omega)]
      have ho := od_pos (n := w₁.natAbs) (by omega)
      have hob := bl_mono (od_le w₁.natAbs)
      generalize hb : decide (w₁ < 0) = b at *
      have hT := fun {ip : Int} (q : (p ≠ 0 ∧ ip = p) ∨ (p = 0 ∧ ip = bl (od w₁.natAbs))) => T_normI P (n := n) (p := p) (up := up) (M := sN b (od w₁.natAbs)) (e := e + tz w₁.natAbs) (is := sI b) (im := od w₁.natAbs) (ibc := bl (od w₁.natAbs)) (ip := ip) (by omega) hp
        (by unfold sN; split <;> (try rw [Int.natAbs_neg]) <;> rw [Int.natAbs_natCast] <;> omega) (by cases b <;> simp [sN, sI]) (by rw [ibl]) q
      clear hb
      unfold c_mpf_add
      repeat' walk_at "bw1"
      all_goals first | (refine ⟨_, hn, ?_⟩) | skip
      all_goals repeat' walk_at "bw1"
      all_goals subst_vars
      all_goals refine ⟨_, hT (by first | exact .inl ⟨by omega, rfl⟩ | exact .inr ⟨by omega, rfl⟩), rfl⟩
    · rw [fp_raw hw₁, fp_raw hw₂]
      have ho₁ := od_pos (n := w₁.natAbs) (by omega)
      have ho₂ := od_pos (n := w₂.natAbs) (by omega)
      have ob₁ := bl_mono (od_le w₁.natAbs)
      have ob₂ := bl_mono (od_le w₂.natAbs)
      have t₁ := tz_lt (n := w₁.natAbs) (by omega) h1
      have t₂ := tz_lt (n := w₂.natAbs) (by omega) h2
      have key := addCore P (n := n) (p := p) (b₁ := decide (w₁ < 0)) (b₂ := decide (w₂ < 0)) (sb := sb) (up := up) (x := od w₁.natAbs) (y := od w₂.natAbs) (s := tz w₁.natAbs) (t := tz w₂.natAbs) (e := e) (by omega) (by omega) he hp (by omega) (by omega) (by omega) (by omega)
      have e2 : sN (decide (w₂ < 0) != sb) (od w₂.natAbs) * 2 ^ tz w₂.natAbs = (if sb = true then -w₂ else w₂) := by
        have := sN_od w₂
        cases sb
        · simp only [Bool.bne_false, Bool.false_eq_true, if_false]; exact this
        · simp only [Bool.bne_true, if_true]; rw [sN_not, Int.neg_mul, this]
      rw [sN_od, e2] at key
      exact key
theorem T_add4 (P : Prog c) {n p : Nat} {w₁ w₂ e : Int} {up : Bool} (he : -2000 ≤ e) (hp : p ≤ 3000) (h1 : w₁.natAbs < 2 ^ 100) (h2 : w₂.natAbs < 2 ^ 100) :
    Tell c (n + 4) "mpf_add" [fp w₁ e, fp w₂ e, .int p, rn up] (Z up p (w₁ + w₂) 1 e) := P.t_mpf_add4 (n + 3) _ _ _ _ _ (addAll P (sb := false) he hp h1 h2)
theorem T_sub4 (P : Prog c) {n p : Nat} {w₁ w₂ e : Int} {up : Bool} (he : -2000 ≤ e) (hp : p ≤ 3000) (h1 : w₁.natAbs < 2 ^ 100) (h2 : w₂.natAbs < 2 ^ 100) :
    Tell c (n + 5) "mpf_sub" [fp w₁ e, fp w₂ e, .int p, rn up] (Z up p (w₁ - w₂) 1 e) := by
  have f1 := P.is_mpf_add
  have hT := P.t_mpf_add5 (n + 3) _ _ _ _ _ _ (addAll P (sb := true) (up := up) (e := e) he hp h1 h2)
  refine P.t_mpf_sub4 (n + 4) _ _ _ _ _ ?_
  unfold c_mpf_sub
  repeat' walk_at "bw1"
  exact ⟨_, hT, rfl⟩
end
end
section
open PySem PySem.W PySem.Calls PyProof.Rows PySem.SeqAt
section
variable {c : Cx}
theorem Z_sign {up : Bool} {p : Nat} {N e : Int} (hN : N ≠ 0) (hp : 1 ≤ p) (he : -2000 ≤ e) (hp2 : p ≤ 3000) :
    ∃ o t b : D, Z up p N 1 e = .tup [.int (if N < 0 then 1 else 0), o, t, b] := by
  rcases Nat.lt_or_ge p (bl N.natAbs) with h | h
  · obtain ⟨k, hk⟩ : ∃ k, bl N.natAbs = p + k := ⟨bl N.natAbs - p, by omega⟩
    have hr := rdiv_range (away := (up == decide (0 < N))) (m := N.natAbs) (by omega) hp hk
    have hq : rdiv (up == decide (0 < N)) N.natAbs (2 ^ k) ≠ 0 := by have := pow_pos' (p - 1); omega
    rw [Z_cut hN hp hk (by omega), fp_sg hq]
    exact ⟨_, _, _, rfl⟩
  · rw [Z_fits hN hp h (by omega), fp_ne hN]
    exact ⟨_, _, _, rfl⟩

theorem raw_ne {b : Bool} {o : Nat} {t a d e f : Int} (h : (o : Int) ≠ d) : [D.int (sI b), .int o, .int t, .int (bl o)] ≠ [.int a, .int d, .int e, .int f] := by
  intro q; simp only [List.cons.injEq, D.int.injEq] at q; exact h q.2.1
theorem raw_ne2 {b : Bool} {o : Nat} {t a d e f : Int} (h : (o : Int) ≠ d) : [D.int a, .int d, .int e, .int f] ≠ [D.int (sI b), .int o, .int t, .int (bl o)] := by
  intro q; simp only [List.cons.injEq, D.int.injEq] at q; exact h q.2.1.symm

set_option maxHeartbeats 1000000 in
theorem T_cmp (P : Prog c) {n : Nat} {w₁ w₂ e : Int} (he : -2000 ≤ e) (h1 : w₁.natAbs < 2 ^ 100) (h2 : w₂.natAbs < 2 ^ 100) :
    Tell c (n + 6) "mpf_cmp" [fp w₁ e, fp w₂ e] (.int (w₁ - w₂).sign) := by
  have f1 := P.is_mpf_sign
  have f2 := P.is_mpf_sub
  have g1 := P.g_fzero; have g2 := P.g_fnan; have g3 := P.g_finf; have g4 := P.g_fninf; have g5 := P.g_round_floor
  refine P.t_mpf_cmp2 (n + 5) _ _ _ ?_
  unfold c_mpf_cmp
  by_cases hw₁ : w₁ = 0
  · subst hw₁
    have hs := (T_sign P (n := n) (w := w₂) (e := e)).mono (m := n + 5) (by omega)
    have hr : -(w₂.sign) = (0 - w₂).sign := by rw [Int.zero_sub, Int.sign_neg]
    rw [fp_zero]
    by_cases hw₂ : w₂ = 0
    · subst hw₂
      rw [fp_zero] at hs ⊢
      repeat' walk_at "bw1"
      refine c_teqY rfl rfl rfl ?_
      repeat' walk_at "bw1"
      refine ⟨_, hs, ?_⟩
      repeat' walk_at "bw1"
      rw [hr]
    · rw [fp_raw hw₂] at hs ⊢
      repeat' walk_at "bw1"
      refine c_teqY rfl rfl rfl ?_
      repeat' walk_at "bw1"
      refine ⟨_, hs, ?_⟩
      repeat' walk_at "bw1"
      rw [hr]
  · by_cases hw₂ : w₂ = 0
    · subst hw₂
      have hs := (T_sign P (n := n) (w := w₁) (e := e)).mono (m := n + 5) (by omega)
      rw [fp_zero, Int.sub_zero]
      rw [fp_raw hw₁] at hs ⊢
      have ho₁ := od_pos (n := w₁.natAbs) (by omega)
      repeat' walk_at "bw1"
      refine c_teqN rfl rfl (raw_ne (by omega)) ?_
      repeat' walk_at "bw1"
      refine c_teqY rfl rfl rfl ?_
      repeat' walk_at "bw1"
      refine ⟨_, hs, ?_⟩
      repeat' walk_at "bw1"
      rfl
    · have hsub := T_sub4 P (n := n) (p := 5) (up := false) he (by omega) h1 h2
      have hZ : w₁ ≠ w₂ → _ := fun h => Z_sign (up := false) (p := 5) (N := w₁ - w₂) (e := e) (by omega) (by omega) he (by omega)
      have ho₁ := od_pos (n := w₁.natAbs) (by omega)
      have ho₂ := od_pos (n := w₂.natAbs) (by omega)
      have o₁ := od_is_odd (n := w₁.natAbs) (by omega)
      have o₂ := od_is_odd (n := w₂.natAbs) (by omega)
      have q₁ := od_tz w₁.natAbs
      have q₂ := od_tz w₂.natAbs
      have v₁ := bl_od (n := w₁.natAbs) (by omega)
      have v₂ := bl_od (n := w₂.natAbs) (by omega)
      have hbl1 : bl w₁.natAbs < bl w₂.natAbs → w₁.natAbs < w₂.natAbs := fun h => by
        rcases Nat.lt_or_ge w₁.natAbs w₂.natAbs with g | g
        · exact g
        · have := bl_mono g; omega
      have hbl2 : bl w₂.natAbs < bl w₁.natAbs → w₂.natAbs < w₁.natAbs := fun h => by
        rcases Nat.lt_or_ge w₂.natAbs w₁.natAbs with g | g
        · exact g
        · have := bl_mono g; omega
      have hE : tz w₁.natAbs = tz w₂.natAbs → (od w₁.natAbs = od w₂.natAbs → w₁.natAbs = w₂.natAbs) ∧ (od w₁.natAbs < od w₂.natAbs → w₁.natAbs < w₂.natAbs) ∧ (od w₂.natAbs < od w₁.natAbs → w₂.natAbs < w₁.natAbs) := by
        intro h
        rw [h] at q₁
        refine ⟨fun g => ?_, fun g => ?_, fun g => ?_⟩
        · rw [g] at q₁; exact q₁.symm.trans q₂
        · have := Nat.mul_lt_mul_of_pos_right g (pow_pos' (tz w₂.natAbs)); rw [q₁, q₂] at this; exact this
        · have := Nat.mul_lt_mul_of_pos_right g (pow_pos' (tz w₂.natAbs)); rw [q₁, q₂] at this; exact this
      have hU : w₁.natAbs = w₂.natAbs → tz w₁.natAbs = tz w₂.natAbs := fun h => by rw [h]
      have hS : (w₂ < w₁ → (w₁ - w₂).sign = 1) ∧ (w₁ < w₂ → (w₁ - w₂).sign = -1) ∧ (w₁ = w₂ → (w₁ - w₂).sign = 0) :=
        ⟨fun h => Int.sign_eq_one_of_pos (by omega), fun h => Int.sign_eq_neg_one_of_neg (by omega), fun h => by rw [h, Int.sub_self]; rfl⟩
      have hsg₁ : (decide (w₁ < 0) = true → w₁ < 0) ∧ (decide (w₁ < 0) = false → 0 ≤ w₁) := ⟨fun h => by simpa using h, fun h => by simpa using h⟩
      have hsg₂ : (decide (w₂ < 0) = true → w₂ < 0) ∧ (decide (w₂ < 0) = false → 0 ≤ w₂) := ⟨fun h => by simpa using h, fun h => by simpa using h⟩
      clear q₁ q₂ h1 h2
      rw [fp_raw hw₁, fp_raw hw₂] at hsub ⊢
      generalize (w₁ - w₂).sign = S at *
      generalize od w₁.natAbs = x at *
      generalize od w₂.natAbs = y at *
      generalize tz w₁.natAbs = s at *
      generalize tz w₂.natAbs = t at *
      generalize bl w₁.natAbs = p₁ at *
      generalize bl w₂.natAbs = p₂ at *
      have fin : ∀ v : Int, v = S → Fl.rt (D.int v) = Fl.rt (D.int S) := fun v h => by rw [h]
      cases hb₁ : decide (w₁ < 0) <;> cases hb₂ : decide (w₂ < 0) <;> rw [hb₁] at hsg₁ hsub <;> rw [hb₂] at hsg₂ hsub <;> simp only [Bool.false_eq_true, false_implies, true_implies, and_true, true_and, reduceCtorEq] at hsg₁ hsg₂
      all_goals simp only [raw, sI, if_true, if_false, Bool.false_eq_true] at hsub ⊢
      all_goals repeat' walk_at "bw1"
      all_goals first
        | (refine fin _ ?_; omega)
        | (obtain ⟨oo, tt, bb, hz⟩ := hZ (by omega)
           refine ⟨_, hsub, ?_⟩
           rw [hz]
           repeat' walk_at "bw1"
           all_goals (refine fin _ ?_; split at * <;> omega))

theorem fp_notnan {w e : Int} : ∃ l, fp w e = .tup l ∧ D.pts l = true ∧ l ≠ [.int 0, .int 0, .int (-123), .int (-1)] ∧ l ≠ [.int 0, .int 0, .int (-456), .int (-2)] ∧ l ≠ [.int 1, .int 0, .int (-789), .int (-3)] := by
  by_cases hw : w = 0
  · subst hw; exact ⟨_, rfl, rfl, by simp, by simp, by simp⟩
  · have ho := od_pos (n := w.natAbs) (by omega)
    rw [fp_raw hw]
    exact ⟨_, rfl, rfl, raw_ne (by omega), raw_ne (by omega), raw_ne (by omega)⟩
theorem T_ge (P : Prog c) {n : Nat} {w₁ w₂ e : Int} (he : -2000 ≤ e) (h1 : w₁.natAbs < 2 ^ 100) (h2 : w₂.natAbs < 2 ^ 100) : Tell c (n + 7) "mpf_ge" [fp w₁ e, fp w₂ e] (.bool (decide (w₂ ≤ w₁))) := by
  have f1 := P.is_mpf_cmp
  have g1 := P.g_fnan
  have hc := T_cmp P (n := n) he h1 h2
  have hs := Int.sign_nonneg_iff (x := w₁ - w₂)
  refine P.t_mpf_ge2 (n + 6) _ _ _ ?_
  unfold c_mpf_ge
  obtain ⟨l₁, e₁, p₁, n₁, _⟩ := fp_notnan (w := w₁) (e := e)
  obtain ⟨l₂, e₂, p₂, n₂, _⟩ := fp_notnan (w := w₂) (e := e)
  rw [e₁, e₂] at hc ⊢
  repeat' walk_at "bw1"
  refine c_teqN p₁ rfl n₁ ?_
  repeat' walk_at "bw1"
  refine c_teqN p₂ rfl n₂ ?_
  repeat' walk_at "bw1"
  refine ⟨_, hc, ?_⟩
  repeat' walk_at "bw1"
  · rw [decide_eq_true (by omega)]
  · rw [decide_eq_false (by omega)]
theorem T_le (P : Prog c) {n : Nat} {w₁ w₂ e : Int} (he : -2000 ≤ e) (h1 : w₁.natAbs < 2 ^ 100) (h2 : w₂.natAbs < 2 ^ 100) : Tell c (n + 7) "mpf_le" [fp w₁ e, fp w₂ e] (.bool (decide (w₁ ≤ w₂))) := by
  have f1 := P.is_mpf_cmp
  have g1 := P.g_fnan
  have hc := T_cmp P (n := n) he h1 h2
  have hs := Int.sign_pos_iff (x := w₁ - w₂)
  refine P.t_mpf_le2 (n + 6) _ _ _ ?_
  unfold c_mpf_le
  obtain ⟨l₁, e₁, p₁, n₁, _⟩ := fp_notnan (w := w₁) (e := e)
  obtain ⟨l₂, e₂, p₂, n₂, _⟩ := fp_notnan (w := w₂) (e := e)
  rw [e₁, e₂] at hc ⊢
  repeat' walk_at "bw1"
  refine c_teqN p₁ rfl n₁ ?_
  repeat' walk_at "bw1"
  refine c_teqN p₂ rfl n₂ ?_
  repeat' walk_at "bw1"
  refine ⟨_, hc, ?_⟩
  repeat' walk_at "bw1"
  · rw [decide_eq_true (by omega)]
  · rw [decide_eq_false (by omega)]
theorem T_lt (P : Prog c) {n : Nat} {w₁ w₂ e : Int} (he : -2000 ≤ e) (h1 : w₁.natAbs < 2 ^ 100) (h2 : w₂.natAbs < 2 ^ 100) : Tell c (n + 7) "mpf_lt" [fp w₁ e, fp w₂ e] (.bool (decide (w₁ < w₂))) := by
  have f1 := P.is_mpf_cmp
  have g1 := P.g_fnan
  have hc := T_cmp P (n := n) he h1 h2
  have hs := Int.sign_nonneg_iff (x := w₁ - w₂)
  refine P.t_mpf_lt2 (n + 6) _ _ _ ?_
  unfold c_mpf_lt
  obtain ⟨l₁, e₁, p₁, n₁, _⟩ := fp_notnan (w := w₁) (e := e)
  obtain ⟨l₂, e₂, p₂, n₂, _⟩ := fp_notnan (w := w₂) (e := e)
  rw [e₁, e₂] at hc ⊢
  repeat' walk_at "bw1"
  refine c_teqN p₁ rfl n₁ ?_
  repeat' walk_at "bw1"
  refine c_teqN p₂ rfl n₂ ?_
  repeat' walk_at "bw1"
  refine ⟨_, hc, ?_⟩
  repeat' walk_at "bw1"
  · rw [decide_eq_true (by omega)]
  · rw [decide_eq_false (by omega)]
theorem T_gt (P : Prog c) {n : Nat} {w₁ w₂ e : Int} (he : -2000 ≤ e) (h1 : w₁.natAbs < 2 ^ 100) (h2 : w₂.natAbs < 2 ^ 100) : Tell c (n + 7) "mpf_gt" [fp w₁ e, fp w₂ e] (.bool (decide (w₂ < w₁))) := by
  have f1 := P.is_mpf_cmp
  have g1 := P.g_fnan
  have hc := T_cmp P (n := n) he h1 h2
  have hs := Int.sign_pos_iff (x := w₁ - w₂)
  refine P.t_mpf_gt2 (n + 6) _ _ _ ?_
  unfold c_mpf_gt
  obtain ⟨l₁, e₁, p₁, n₁, _⟩ := fp_notnan (w := w₁) (e := e)
  obtain ⟨l₂, e₂, p₂, n₂, _⟩ := fp_notnan (w := w₂) (e := e)
  rw [e₁, e₂] at hc ⊢
  repeat' walk_at "bw1"
  refine c_teqN p₁ rfl n₁ ?_
  repeat' walk_at "bw1"
  refine c_teqN p₂ rfl n₂ ?_
  repeat' walk_at "bw1"
  refine ⟨_, hc, ?_⟩
  repeat' walk_at "bw1"
  · rw [decide_eq_true (by omega)]
  · rw [decide_eq_false (by omega)]
end
end
section
open PySem PySem.W PySem.Calls PyProof.Rows PySem.SeqAt
section
variable {FN : Str → Prop} {T : Str → List D → D → Prop} {G : Str → D → Prop} {GD : Str → Str → D → Prop} {ρ : Rho} {K : Fl → Prop}
def kf (ds : List D) (f : D → Rho → (Fl → Prop) → Prop) (K : Fl → Prop) : Fl → Prop
  | .nx ρ => pFor ds f ρ K
  | .rt v => K (.rt v)
theorem r_forC {d : D} {ds : List D} {f : D → Rho → (Fl → Prop) → Prop} (h : f d ρ (kf ds f K)) : pFor (d :: ds) f ρ K := h
theorem r_forN {f : D → Rho → (Fl → Prop) → Prop} (h : K (.nx ρ)) : pFor [] f ρ K := h
theorem r_forD {ds : List D} {f : D → Rho → (Fl → Prop) → Prop} (h : pFor ds f ρ K) : pS FN T G GD .done ρ (kf ds f K) := h
theorem r_knx {r : PS} (h : pS FN T G GD r ρ K) : kn FN T G GD r K (.nx ρ) := h
theorem r_drop {a : PE} {n : Nat} {Q : D → Prop} (h : pE FN T G GD a ρ (dList fun l => l.length ≤ 1000 ∧ Q (.list (l.drop n)))) : pE FN T G GD (.drop a n) ρ Q := by
  have : (dList fun l => l.length ≤ 1000 ∧ Q (.list (l.drop n))) = (fun x => (match x with | .list l => l.length ≤ 1000 ∧ Q (.list (l.drop n)) | _ => False)) := by funext d; cases d <;> rfl
  rw [this] at h; exact h
end
def lmin (a : Int) (ws : List Int) : Int := ws.foldl (fun a b => if b < a then b else a) a
def lmax (a : Int) (ws : List Int) : Int := ws.foldl (fun a b => if a < b then b else a) a
section
variable {c : Cx}
abbrev c_mmbody : PS := .ifs (.call "mpf_lt" (.cons (.var 3) (.cons (.var 1) .nil)))
 (.asg 1 (.var 3)
 .done)
 .done
 (.ifs (.call "mpf_gt" (.cons (.var 3) (.cons (.var 2) .nil)))
 (.asg 2 (.var 3)
 .done)
 .done
 .done)
theorem mmLoop (P : Prog c) {n : Nat} {e : Int} (he : -2000 ≤ e) {L : Option D} {K : Fl → Prop} : ∀ (ws : List Int) (a b : Int) (x : Option D), a.natAbs < 2 ^ 100 → b.natAbs < 2 ^ 100 → (∀ w ∈ ws, w.natAbs < 2 ^ 100) →
    (∀ x', K (.nx [L, some (fp (lmin a ws) e), some (fp (lmax b ws) e), x', none, none])) →
    pFor (ws.map fun w => fp w e) (fun d ρ K => qS c (n + 7) c_mmbody (put ρ 3 d) K) [L, some (fp a e), some (fp b e), x, none, none] K
  | [], a, b, x, _, _, _, h => r_forN (h x)
  | w :: ws, a, b, x, ha, hb, hw, h => by
    have f1 := P.is_mpf_lt
    have f2 := P.is_mpf_gt
    have hww := hw w List.mem_cons_self
    have hws := fun y hy => hw y (List.mem_cons_of_mem _ hy)
    have t1 := T_lt P (n := n) (w₁ := w) (w₂ := a) he hww ha
    have t2 := T_gt P (n := n) (w₁ := w) (w₂ := b) he hww hb
    refine r_forC ?_
    have ih := mmLoop P (n := n) he (L := L) (K := K) ws (if w < a then w else a) (if b < w then w else b) (some (fp w e)) (by split <;> assumption) (by split <;> assumption) hws h
    have c1 : decide (w < a) = true → (if w < a then w else a) = w := fun h => if_pos (by simpa using h)
    have c2 : decide (w < a) = false → (if w < a then w else a) = a := fun h => if_neg (by simpa using h)
    have c3 : decide (b < w) = true → (if b < w then w else b) = w := fun h => if_pos (by simpa using h)
    have c4 : decide (b < w) = false → (if b < w then w else b) = b := fun h => if_neg (by simpa using h)
    repeat' walk_at "bw1"
    refine ⟨_, t1, ?_⟩
    repeat' walk_at "bw1"
    all_goals refine ⟨_, t2, ?_⟩
    all_goals repeat' walk_at "bw1"
    all_goals refine r_forD ?_
    · rw [c1 (by assumption), c3 (by assumption)] at ih; exact ih
    · rw [c1 (by assumption), c4 (by assumption)] at ih; exact ih
    · rw [c2 (by assumption), c3 (by assumption)] at ih; exact ih
    · rw [c2 (by assumption), c4 (by assumption)] at ih; exact ih
theorem T_minmax (P : Prog c) {n : Nat} {e w : Int} {ws : List Int} (he : -2000 ≤ e) (h1 : w.natAbs < 2 ^ 100) (h2 : ∀ w ∈ ws, w.natAbs < 2 ^ 100) (hl : ws.length ≤ 100) :
    Tell c (n + 8) "mpf_min_max" [.list ((w :: ws).map fun w => fp w e)] (.tup [fp (lmin w ws) e, fp (lmax w ws) e]) := by
  refine P.t_mpf_min_max1 (n + 7) _ _ ?_
  unfold c_mpf_min_max
  refine r_asg2 ?_
  repeat' walk_at "bw1"
  refine r_fors (r_drop ?_)
  repeat' walk_at "bw1"
  refine r_dList ⟨by simp; omega, r_dList ⟨by simp; omega, ?_⟩⟩
  refine mmLoop P he ws w w none h1 h1 h2 fun x' => ?_
  refine r_knx ?_
  repeat' walk_at "bw1"
  rfl

-- ## division
theorem sticky_q {away : Bool} {q A y q0 r V : Nat} (hA : A = q0 * y + r) (h0 : 0 < r) (h1 : r < y) (h : RdQ away q (2 * q0 + 1) (2 * V)) : RdQ away q (2 * A) (2 * V * y) := by
  unfold RdQ at h ⊢
  have e1 : q * (2 * V) = 2 * (q * V) := by ac_rfl
  have e2 : q * (2 * V * y) = 2 * (q * V * y) := by ac_rfl
  cases away
  · simp only [Bool.false_eq_true, if_false] at h ⊢
    have e3 : (q + 1) * (2 * V) = 2 * ((q + 1) * V) := by ac_rfl
    have e4 : (q + 1) * (2 * V * y) = 2 * ((q + 1) * V * y) := by ac_rfl
    rw [e1, e3] at h
    rw [e2, e4]
    have a1 := Nat.mul_le_mul_right y (show q * V ≤ q0 by omega)
    have a2 := Nat.mul_le_mul_right y (show q0 + 1 ≤ (q + 1) * V by omega)
    rw [Nat.add_mul q0 1, Nat.one_mul] at a2
    omega
  · simp only [if_true] at h ⊢
    rw [e1] at h
    rw [e2]
    have a1 := Nat.mul_le_mul_right y (show q0 + 1 ≤ q * V by omega)
    have a2 := Nat.mul_le_mul_right y (show q * V ≤ q0 + V by omega)
    rw [Nat.add_mul q0 1, Nat.one_mul] at a1
    rw [Nat.add_mul] at a2
    have e3 : 2 * V * y = 2 * (V * y) := by ac_rfl
    omega

theorem Z_sticky {up b : Bool} {p x y E q0 r : Nat} {e : Int} (hx : x ≠ 0) (hp : 1 ≤ p) (hA : x * 2 ^ E = q0 * y + r) (h0 : 0 < r) (h1 : r < y) (hq : 2 ^ p ≤ q0) (he : -4000 ≤ e - E) :
    Z up p (sN b (2 * q0 + 1)) 1 (e - E - 1) = Z up p (sN b x) y e := by
  have hN : sN b (2 * q0 + 1) ≠ 0 := by unfold sN; split <;> omega
  have hNx : sN b x ≠ 0 := by unfold sN; split <;> omega
  have na : (sN b (2 * q0 + 1)).natAbs = 2 * q0 + 1 := by unfold sN; split <;> omega
  have nx : (sN b x).natAbs = x := by unfold sN; split <;> omega
  have d1 : decide (0 < sN b (2 * q0 + 1)) = decide (0 < sN b x) := by unfold sN; cases b <;> simp <;> omega
  have hbl : p < bl (2 * q0 + 1) := by
    have := bl_lt (2 * q0 + 1)
    have h3 : 2 ^ p < 2 ^ bl (2 * q0 + 1) := by omega
    exact (Nat.pow_lt_pow_iff_right (a := 2) (by decide)).mp h3
  obtain ⟨k, hk⟩ : ∃ k, bl (2 * q0 + 1) = p + (k + 1) := ⟨bl (2 * q0 + 1) - p - 1, by omega⟩
  rw [Z_cut hN hp (n := k + 1) (by rw [na]; exact hk) (by omega), na, d1]
  symm
  have hsg : sg (sN b (2 * q0 + 1)) = sg (sN b x) := by
    funext q; unfold sg
    have : (sN b (2 * q0 + 1) < 0) = (sN b x < 0) := by unfold sN; apply propext; cases b <;> simp <;> omega
    simp only [this]
  rw [hsg]
  have t0 : -5000 ≤ e - E - 1 := by omega
  have hP : P2 e = 2 ^ (E + 1) * P2 (e - E - 1) := by rw [← P2_add t0, show e - (E : Int) - 1 + ((E + 1 : Nat) : Int) = e by push_cast; omega]
  have hT : P2 (e - E - 1 + ((k + 1 : Nat) : Int)) = 2 ^ (k + 1) * P2 (e - E - 1) := P2_add t0 _
  have g1 := bl_ge (n := 2 * q0 + 1) (by omega)
  have g2 := bl_lt (2 * q0 + 1)
  rw [hk] at g1 g2
  have hy : 0 < y := by omega
  have hx2 : x * 2 ^ (E + 1) = 2 * (q0 * y + r) := by rw [Nat.pow_succ, ← Nat.mul_assoc, hA, Nat.mul_comm]
  have eV : (2 : Nat) ^ (k + 1) = 2 * 2 ^ k := by rw [Nat.pow_succ, Nat.mul_comm]
  refine Z_eq hNx hp hy ⟨?_, ?_, ?_, by omega⟩
  · rw [nx, hT, hP, ← Nat.mul_assoc x, hx2]
    rw [show y * (2 ^ (k + 1) * P2 (e - E - 1)) = y * 2 ^ (k + 1) * P2 (e - E - 1) by ac_rfl, ← Nat.mul_assoc]
    refine Nat.mul_le_mul_right _ ?_
    have e1 : 2 ^ (p + (k + 1) - 1) = 2 * (2 ^ (p - 1) * 2 ^ k) := by
      rw [← Nat.pow_add, show p + (k + 1) - 1 = (p - 1 + k) + 1 by omega, Nat.pow_succ, Nat.mul_comm]
    rw [e1] at g1
    have a1 := Nat.mul_le_mul_right y (show 2 ^ (p - 1) * 2 ^ k ≤ q0 by omega)
    rw [eV]
    have e2 : 2 ^ (p - 1) * (y * (2 * 2 ^ k)) = 2 * (2 ^ (p - 1) * 2 ^ k * y) := by ac_rfl
    omega
  · rw [nx, hT, hP, ← Nat.mul_assoc x, hx2]
    rw [show y * (2 ^ (k + 1) * P2 (e - E - 1)) = y * 2 ^ (k + 1) * P2 (e - E - 1) by ac_rfl, ← Nat.mul_assoc]
    refine Nat.mul_lt_mul_of_pos_right ?_ (P2_pos _)
    have e1 : 2 ^ (p + (k + 1)) = 2 * (2 ^ p * 2 ^ k) := by
      rw [← Nat.pow_add, show p + (k + 1) = (p + k) + 1 by omega, Nat.pow_succ, Nat.mul_comm]
    rw [e1] at g2
    have a1 := Nat.mul_le_mul_right y (show q0 + 1 ≤ 2 ^ p * 2 ^ k by omega)
    rw [eV]
    have e2 : 2 ^ p * (y * (2 * 2 ^ k)) = 2 * (2 ^ p * 2 ^ k * y) := by ac_rfl
    rw [Nat.add_mul, Nat.one_mul] at a1
    omega
  · rw [nx, hT, hP, ← Nat.mul_assoc x, hx2]
    rw [show y * (2 ^ (k + 1) * P2 (e - E - 1)) = 2 * 2 ^ k * y * P2 (e - E - 1) by rw [eV]; ac_rfl]
    refine RdQ.scale (P2_pos _) ?_
    refine sticky_q rfl h0 h1 ?_
    rw [eV]
    exact rdiv_q (by have := pow_pos' k; omega)
end
end
section
open PySem PySem.W PySem.Calls PyProof.Rows PySem.SeqAt
section
variable {FN : Str → Prop} {T : Str → List D → D → Prop} {G : Str → D → Prop} {GD : Str → Str → D → Prop} {ρ : Rho} {K : Fl → Prop} {Q : D → Prop}
def dDm (x y : D) (Q : D → Prop) : Prop := match x, y with | .int i, .int j => j ≠ 0 ∧ Builtin.divisionGoesByPylong i j = false ∧ Q (.tup [.int (i.fdiv j), .int (i.fmod j)]) | _, _ => False
theorem r_dm {a b : PE} (h : pE FN T G GD a ρ fun x => pE FN T G GD b ρ fun y => dDm x y Q) : pE FN T G GD (.dm a b) ρ Q := h
theorem r_dmI {a b : Int} (h1 : b ≠ 0) (h2 : Builtin.divisionGoesByPylong a b = false) (h : Q (.tup [.int (a.fdiv b), .int (a.fmod b)])) : dDm (.int a) (.int b) Q := ⟨h1, h2, h⟩
end
theorem noPylong {a b : Int} (h : bl b.natAbs ≤ 9000) : Builtin.divisionGoesByPylong a b = false := by
  unfold Builtin.divisionGoesByPylong
  have hl : b.natAbs.log2 < 9000 := by
    unfold bl at h
    split at h
    · rename_i q; rw [q]; decide
    · omega
  simp only [Bool.and_eq_false_iff]
  left
  rw [decide_eq_false_iff_not]
  split <;> omega
section
variable {c : Cx}
abbrev c_divtail : PS := .unp [16, 17] (.dm (.bin .LShift (.var 5) (.var 15)) (.var 9))
 (.ifs (.var 17)
 (.asg 16 (.bin .Add (.bin .LShift (.var 16) (.cst (.int 1))) (.cst (.int 1)))
 (.aug 15 .Add (.cst (.int 1))
 .done))
 .done
 (.asg 18 (.bitlen (.var 16))
 (.ret (.call "normalize" (.cons (.var 14) (.cons (.var 16) (.cons (.bin .Sub (.bin .Sub (.var 6) (.var 10)) (.var 15)) (.cons (.var 18) (.cons (.or (.var 2) (.var 18)) (.cons (.var 3) .nil)))))))))) 
theorem divTail (P : Prog c) {n p x y : Nat} {b up : Bool} {j is s1 t1 : Int} {ρ : Rho} {u0 u1 u4 u7 u8 u11 u12 u13 u16 u17 u18 u19 u20 u21 u22 u23 u24 u25 u26 u27 : Option D} (hx : x ≠ 0) (hy : y ≠ 0) (hp : 1 ≤ p) (hp2 : p ≤ 200) (hbx : bl x ≤ 200) (hby : bl y ≤ 200)
    (hρ : ρ = [u0, u1, some (.int p), some (rn up), u4, some (.int x), some (.int s1), u7, u8, some (.int y), some (.int t1), u11, u12, u13, some (.int is), some (.int j), u16, u17, u18, u19, u20, u21, u22, u23, u24, u25, u26, u27]) (hst : -1000 ≤ s1 - t1)
    (his : is = sI b) (j0 : 5 ≤ j) (j1 : (p : Int) - bl x + bl y + 5 ≤ j) (j2 : j ≤ 700) : qS c (n + 3) c_divtail ρ (fun fl => fl = .rt (Z up p (sN b x) y (s1 - t1))) := by
  subst hρ; subst his
  obtain ⟨E, rfl⟩ : ∃ E : Nat, j = E := ⟨j.toNat, by omega⟩
  have f1 := P.is_normalize
  have i1 : (Builtin.Int.intBits (x : Int) : Int) ≤ 200 := by rw [ibl]; omega
  have hny := noPylong (a := (x : Int) * 2 ^ E) (b := y) (by rw [Int.natAbs_natCast]; omega)
  have hq : ((x : Int) * 2 ^ E).fdiv y = ((x * 2 ^ E / y : Nat) : Int) := by
    rw [pow_cast, ← Int.natCast_mul, Int.fdiv_eq_ediv_of_nonneg _ (Int.natCast_nonneg _)]; rfl
  have hr : ((x : Int) * 2 ^ E).fmod y = ((x * 2 ^ E % y : Nat) : Int) := by
    rw [pow_cast, ← Int.natCast_mul, Int.fmod_eq_emod_of_nonneg _ (Int.natCast_nonneg _)]; rfl
  have hA := Nat.div_add_mod (x * 2 ^ E) y
  have hm := Nat.mod_lt (x * 2 ^ E) (show y > 0 by omega)
  have hbig : 2 ^ p ≤ x * 2 ^ E / y := by
    rw [Nat.le_div_iff_mul_le (by omega)]
    have g1 := bl_ge hx
    have g2 := bl_lt y
    calc 2 ^ p * y ≤ 2 ^ p * 2 ^ bl y := Nat.mul_le_mul_left _ (Nat.le_of_lt g2)
      _ = 2 ^ (p + bl y) := by rw [Nat.pow_add]
      _ ≤ 2 ^ (bl x - 1 + E) := Nat.pow_le_pow_right (by decide) (by omega)
      _ = 2 ^ (bl x - 1) * 2 ^ E := by rw [Nat.pow_add]
      _ ≤ x * 2 ^ E := Nat.mul_le_mul_right _ g1
  have hpp := pow_pos' p
  have hqb : bl (x * 2 ^ E / y) ≤ 1000 := by
    refine Nat.le_trans (bl_mono (Nat.div_le_self _ _)) ?_
    rw [bl_mul hx]; omega
  have i2 : (Builtin.Int.intBits ((x * 2 ^ E / y : Nat) : Int) : Int) ≤ 1000 := by rw [ibl]; omega
  have hZ0 : x * 2 ^ E % y = 0 → Z up p (sN b (x * 2 ^ E / y)) 1 (s1 - t1 - E) = Z up p (sN b x) y (s1 - t1) := by
    intro h0
    refine Z_same hp (by decide) (by omega) ?_
    have hP : P2 (s1 - t1) = 2 ^ E * P2 (s1 - t1 - E) := by rw [← P2_add (by omega), show s1 - t1 - (E : Int) + E = s1 - t1 by omega]
    have e0 : x * 2 ^ E = x * 2 ^ E / y * y := by rw [h0, Nat.add_zero] at hA; exact hA.symm.trans (Nat.mul_comm _ _)
    have e1 : sN b (x * 2 ^ E / y) * (y : Int) = sN b x * ((2 ^ E : Nat) : Int) := by
      unfold sN; cases b
      · simp only [Bool.false_eq_true, if_false]; rw [← Int.natCast_mul, ← Int.natCast_mul, ← e0]
      · simp only [if_true]; rw [Int.neg_mul, Int.neg_mul, ← Int.natCast_mul, ← Int.natCast_mul, ← e0]
    rw [hP]
    rw [Int.natCast_mul (2 ^ E)]
    calc sN b (x * 2 ^ E / y) * (P2 (s1 - t1 - E) : Int) * (y : Int) = (sN b (x * 2 ^ E / y) * (y : Int)) * (P2 (s1 - t1 - E) : Int) := by ac_rfl
      _ = sN b x * ((2 ^ E : Nat) : Int) * (P2 (s1 - t1 - E) : Int) := by rw [e1]
      _ = sN b x * (((2 ^ E : Nat) : Int) * (P2 (s1 - t1 - E) : Int)) * ((1 : Nat) : Int) := by rw [Int.mul_assoc]; simp
  have hZ1 : x * 2 ^ E % y ≠ 0 → Z up p (sN b (2 * (x * 2 ^ E / y) + 1)) 1 (s1 - t1 - (E + 1)) = Z up p (sN b x) y (s1 - t1) := by
    intro h0
    rw [show s1 - t1 - ((E : Int) + 1) = s1 - t1 - E - 1 by omega]
    exact Z_sticky hx hp (by rw [Nat.mul_comm (x * 2 ^ E / y)]; exact hA.symm) (by omega) hm hbig (by omega)
  generalize x * 2 ^ E / y = q0 at *
  generalize x * 2 ^ E % y = r at *
  have i3 : ((q0 : Int) * 2 ^ (1 : Int).toNat + 1) = ((2 * q0 + 1 : Nat) : Int) := by show (q0 : Int) * 2 ^ 1 + 1 = _; push_cast; omega
  refine r_unp (r_dm ?_)
  repeat' walk_at "bw1"
  refine r_dmI (by omega) hny ?_
  rw [show (E : Int).toNat = E from rfl, hq, hr]
  repeat' walk_at "bw1"
  all_goals subst_vars
  · refine ⟨_, T_norm P (b := b) (m := 2 * q0 + 1) (p := p) (e := s1 - t1 - (E + 1)) (by omega) hp (by omega) (by omega) rfl i3 (by rw [i3, ibl]) rfl, ?_⟩
    rw [hZ1 (by omega)]; try rfl
  · refine ⟨_, T_norm P (b := b) (m := q0) (p := p) (e := s1 - t1 - E) (by omega) hp (by omega) (by omega) rfl rfl (by rw [ibl]) rfl, ?_⟩
    rw [hZ0 (by omega)]; try rfl

theorem Z_div {up : Bool} {p s t y : Nat} {N e : Int} (hp : 1 ≤ p) (hy : 0 < y) (he : -4000 ≤ e - t) : Z up p (N * 2 ^ s) (y * 2 ^ t) e = Z up p N y (e + s - t) := by
  refine Z_same hp (Nat.mul_pos hy (pow_pos' t)) hy ?_
  have h1 : P2 e = 2 ^ t * P2 (e - t) := by rw [← P2_add (by omega), show e - (t : Int) + t = e by omega]
  have h2 : P2 (e + s - t) = 2 ^ s * P2 (e - t) := by rw [← P2_add (by omega), show e - (t : Int) + s = e + s - t by omega]
  rw [h1, h2]
  push_cast
  ac_rfl

theorem T_div (P : Prog c) {n p : Nat} {w₁ w₂ e₁ e₂ : Int} {up : Bool} (h1 : w₁.natAbs < 2 ^ 200) (h2 : w₂.natAbs < 2 ^ 200) (hw₂ : w₂ ≠ 0) (hp : 1 ≤ p) (hp2 : p ≤ 200) (he₁ : -400 ≤ e₁) (he₁' : e₁ ≤ 400) (he₂ : -400 ≤ e₂) (he₂' : e₂ ≤ 400) :
    Tell c (n + 4) "mpf_div" [fp w₁ e₁, fp w₂ e₂, .int p, rn up] (Z up p (if w₂ < 0 then -w₁ else w₁) w₂.natAbs (e₁ - e₂)) := by
  have f1 := P.is_normalize
  have g1 := P.g_fzero; have g2 := P.g_fnan
  have b1 := bl_le h1
  have b2 := bl_le h2
  have ho₂ := od_pos (n := w₂.natAbs) (by omega)
  have ob₂ := bl_mono (od_le w₂.natAbs)
  have t₂ := tz_lt (n := w₂.natAbs) (by omega) h2
  refine P.t_mpf_div4 (n + 3) _ _ _ _ _ ?_
  by_cases hw₁ : w₁ = 0
  · subst hw₁
    have : (if w₂ < 0 then -(0 : Int) else 0) = 0 := by split <;> rfl
    rw [this, Z_zero, fp_zero, fp_raw hw₂]
    unfold c_mpf_div
    repeat' walk_at "bw1"
    refine c_teqY rfl rfl rfl ?_
    repeat' walk_at "bw1"
    refine c_teqN rfl rfl (raw_ne (by omega)) ?_
    repeat' walk_at "bw1"
    refine c_teqN rfl rfl (raw_ne (by omega)) ?_
    repeat' walk_at "bw1"
    rfl
  · have ho₁ := od_pos (n := w₁.natAbs) (by omega)
    have ob₁ := bl_mono (od_le w₁.natAbs)
    have t₁ := tz_lt (n := w₁.natAbs) (by omega) h1
    have hW : (if w₂ < 0 then -w₁ else w₁) = sN (decide (w₁ < 0) != decide (w₂ < 0)) (od w₁.natAbs) * 2 ^ tz w₁.natAbs := by
      have := sN_od w₁
      by_cases hn : w₂ < 0
      · rw [if_pos hn, decide_eq_true hn, Bool.bne_true, sN_not, Int.neg_mul, this]
      · rw [if_neg hn, decide_eq_false hn, Bool.bne_false, this]
    have hZ : Z up p (if w₂ < 0 then -w₁ else w₁) w₂.natAbs (e₁ - e₂) = Z up p (sN (decide (w₁ < 0) != decide (w₂ < 0)) (od w₁.natAbs)) (od w₂.natAbs) (e₁ + tz w₁.natAbs - (e₂ + tz w₂.natAbs)) := by
      rw [hW]
      have := od_tz w₂.natAbs
      have hz := Z_div (up := up) (p := p) (s := tz w₁.natAbs) (t := tz w₂.natAbs) (y := od w₂.natAbs) (N := sN (decide (w₁ < 0) != decide (w₂ < 0)) (od w₁.natAbs)) (e := e₁ - e₂) hp ho₂ (by omega)
      rw [this] at hz
      rw [hz]; congr 1; omega
    rw [hZ, fp_raw hw₁, fp_raw hw₂]
    have hxor := xor_sI (decide (w₁ < 0)) (decide (w₂ < 0))
    clear hW hZ
    have hx : od w₁.natAbs ≠ 0 := by omega
    have hy : od w₂.natAbs ≠ 0 := by omega
    have hbx : bl (od w₁.natAbs) ≤ 200 := by omega
    have hby : bl (od w₂.natAbs) ≤ 200 := by omega
    generalize od w₁.natAbs = x at *
    generalize od w₂.natAbs = y at *
    generalize tz w₁.natAbs = s at *
    generalize tz w₂.natAbs = t at *
    generalize hb : (decide (w₁ < 0) != decide (w₂ < 0)) = b at *
    generalize decide (w₁ < 0) = a₁ at *
    generalize decide (w₂ < 0) = a₂ at *
    clear hb
    unfold c_mpf_div
    repeat' first
      | ((with_reducible apply divTail P hx hy hp hp2 hbx hby); (· exact rfl); (· omega); (· (subst_vars; exact hxor)); (· omega); (· omega); (· omega))
      | walk_at "bw1"
    · subst_vars
      have hyy : y = 1 := by omega
      subst hyy
      exact ⟨_, T_norm P (b := b) (m := x) (p := p) (by omega) hp (by omega) (by omega) hxor rfl rfl rfl, rfl⟩

theorem sN_pow {b : Bool} {o : Nat} : ∀ n : Nat, sN b o ^ n = sN (b && n % 2 == 1) (o ^ n)
  | 0 => by cases b <;> simp [sN]
  | n + 1 => by
    rw [Int.pow_succ, sN_pow n, sN_mul, Nat.pow_succ]
    congr 1
    cases b <;> simp
    rcases Nat.mod_two_eq_zero_or_one n with h | h
    · rw [h]; have : (n + 1) % 2 = 1 := by omega
      rw [this]; rfl
    · rw [h]; have : (n + 1) % 2 = 0 := by omega
      rw [this]; rfl
theorem bl_pow_le {o k n m : Nat} (h : bl o ≤ k) (hn : n ≤ m) (hm : 1 ≤ m) : bl (o ^ n) ≤ k * m + 1 := by
  refine bl_le ?_
  have h1 := bl_lt o
  calc o ^ n ≤ (2 ^ bl o) ^ n := Nat.pow_le_pow_left (Nat.le_of_lt h1) n
    _ = 2 ^ (bl o * n) := by rw [Nat.pow_mul]
    _ ≤ 2 ^ (k * m) := Nat.pow_le_pow_right (by decide) (Nat.mul_le_mul h hn)
    _ < 2 ^ (k * m + 1) := Nat.pow_lt_pow_right (by decide) (by omega)

set_option maxHeartbeats 1000000 in
theorem T_pow (P : Prog c) {n p k : Nat} {w e : Int} {up : Bool} (h1 : w.natAbs < 2 ^ 100) (hk : 3 ≤ k) (hk2 : k ≤ 6) (hp : 1 ≤ p) (hp2 : p ≤ 200) (he : -100 ≤ e) (he2 : e ≤ 100) :
    Tell c (n + 4) "mpf_pow_int" [fp w e, .int k, .int p, rn up] (Z up p (w ^ k) 1 (e * k)) := by
  have f1 := P.is_normalize
  have f2 := P.g_MPZ_ONE
  have b1 := bl_le h1
  refine P.t_mpf_pow_int4 (n + 3) _ _ _ _ _ ?_
  by_cases hw : w = 0
  · subst hw
    have : (0 : Int) ^ k = 0 := Int.zero_pow (by omega)
    rw [this, Z_zero, fp_zero]
    have hand : Builtin.bitAnd 0 (k : Int) = 0 := by rw [bitAnd_comm, bitAnd_zero]
    have i0 : PowOk 0 k := PowOk.of (n := 0) (k := 6) (Nat.le_refl 0) (by omega) (by omega) (by decide)
    have i1 : IntMulOk 0 k := IntMulOk.of_left (by decide)
    have hT := T_norm0 P (n := n + 1) (s := 0) (e := 0 * (k : Int)) (p := p) (r := rn up)
    clear h1 b1
    unfold c_mpf_pow_int
    repeat' walk_at "bw1"
    subst_vars
    refine b_mul i1 ?_
    have hz0 : (0 : Int) * k = 0 := Int.zero_mul _
    repeat' walk_at "bw1"
    subst_vars
    rw [Int.toNat_natCast, this, hand]
    exact ⟨_, hT, rfl⟩
  · have ho := od_pos (n := w.natAbs) (by omega)
    have hoo := od_is_odd (n := w.natAbs) (by omega)
    have hob := bl_mono (od_le w.natAbs)
    have ht := tz_lt (n := w.natAbs) (by omega) h1
    have hwk : w ^ k = sN (decide (w < 0) && k % 2 == 1) (od w.natAbs ^ k) * 2 ^ (tz w.natAbs * k) := by
      conv => lhs; rw [← sN_od w]
      rw [Int.mul_pow, ← Int.pow_mul, sN_pow]
    rw [hwk, Z_shift (by have : (-100 : Int) * 6 ≤ e * k := by
                           rcases Int.lt_or_le e 0 with q | q
                           · have := Int.mul_le_mul_of_nonneg_right (a := -100) (b := e) (c := (k : Int)) he (by omega)
                             omega
                           · have := Int.mul_nonneg q (Int.natCast_nonneg k)
                             omega
                         omega), fp_raw hw]
    clear hwk
    have hb : bl (od w.natAbs) ≤ 100 := by omega
    clear b1 hob h1
    generalize od w.natAbs = o at *
    generalize tz w.natAbs = t at *
    generalize decide (w < 0) = b at *
    have hpw := bl_pow_le hb hk2 (by omega)
    have hand : Builtin.bitAnd (sI b) (k : Int) = sI (b && k % 2 == 1) := by
      cases b
      · show Builtin.bitAnd 0 (k : Int) = _
        rw [bitAnd_comm, bitAnd_zero]; rfl
      · show Builtin.bitAnd 1 (k : Int) = _
        rw [bitAnd_comm, and_one]
        rcases Nat.mod_two_eq_zero_or_one k with q | q <;> rw [q] <;> rfl
    have i0 : PowOk o k := PowOk.of (n := 100) (k := 6) (by rw [ibl]; exact hb) (by omega) (by omega) (by decide)
    have i1 : IntMulOk (e + t) k := IntMulOk.of_right (by rw [ibl]; exact Nat.le_trans (bl_mono hk2) (by decide))
    have i2 : IntMulOk (bl o) k := IntMulOk.of_right (by rw [ibl]; exact Nat.le_trans (bl_mono hk2) (by decide))
    have ek : (e + (t : Int)) * k = e * k + ((t * k : Nat) : Int) := by rw [Int.add_mul]; push_cast; rfl
    have hbk : (bl o : Int) * k < 1000 := by
      have := Nat.mul_le_mul hb hk2
      omega
    have hek : -2000 ≤ e * k + ((t * k : Nat) : Int) := by
      have : (-100 : Int) * 6 ≤ e * k := by
        rcases Int.lt_or_le e 0 with q | q
        · have := Int.mul_le_mul_of_nonneg_right (a := -100) (b := e) (c := (k : Int)) he (by omega)
          omega
        · have := Int.mul_nonneg q (Int.natCast_nonneg k)
          omega
      omega
    have hok : o ^ k ≠ 0 := Nat.ne_of_gt (Nat.pow_pos ho)
    have hT : ∀ {is im ibc ie : Int}, is = sI (b && k % 2 == 1) → im = ((o ^ k : Nat) : Int) → ibc = bl (o ^ k) → ie = e * k + ((t * k : Nat) : Int) →
        Tell c (n + 3) "normalize" [.int is, .int im, .int ie, .int ibc, .int p, rn up] (Z up p (sN (b && k % 2 == 1) (o ^ k)) 1 (e * k + ((t * k : Nat) : Int))) := by
      rintro is im ibc ie h1 h2 h3 rfl
      exact T_norm P (n := n) (b := b && k % 2 == 1) (up := up) (m := o ^ k) (p := p) (is := is) (im := im) (ibc := ibc) (ip := p) hok hp (by omega) (by omega) h1 h2 h3 rfl
    have hp1 : ((o : Int)) ^ k = ((o ^ k : Nat) : Int) := by push_cast; rfl
    unfold c_mpf_pow_int
    repeat' walk_at "bw1"
    · subst_vars
      refine b_mul i1 ?_
      repeat' walk_at "bw1"
      have ho1 : o = 1 := by omega
      subst ho1
      have hN : sN (b && k % 2 == 1) (1 ^ k) ≠ 0 := by rw [Nat.one_pow]; unfold sN; split <;> omega
      have hn : (sN (b && k % 2 == 1) (1 ^ k)).natAbs = 1 := by rw [Nat.one_pow]; unfold sN; split <;> omega
      rw [Z_fits hN hp (by rw [hn]; exact hp) (by omega), hand, ek, Nat.one_pow]
      rw [← raw_fp (by decide)]
      rfl
    · subst_vars
      refine b_mul i2 ?_
      repeat' walk_at "bw1"
      subst_vars
      rw [Int.toNat_natCast, hp1, ibl]
      refine ⟨_, hT hand rfl rfl ek, ?_⟩
      refine r_rt ?_
      refine rfl
end
end
section
open PySem PySem.W PySem.Calls PyProof.Rows PySem.SeqAt
section
variable {c : Cx}
theorem Z_fp1 {up : Bool} {p : Nat} {N e : Int} (hp2 : p ≤ 300) (he : -4000 ≤ e) : ∃ w' e', Z up p N 1 e = fp w' e' := by
  rcases Nat.eq_zero_or_pos p with rfl | hp
  · exact ⟨N, e, Z_exact⟩
  · by_cases hN : N = 0
    · subst hN; exact ⟨0, 0, by rw [Z_zero]; rfl⟩
    · rcases Nat.lt_or_ge p (bl N.natAbs) with h | h
      · obtain ⟨k, hk⟩ : ∃ k, bl N.natAbs = p + k := ⟨bl N.natAbs - p, by omega⟩
        exact ⟨_, _, Z_cut hN hp hk (by omega)⟩
      · exact ⟨_, _, Z_fits hN hp h (by omega)⟩
theorem sN_self (N : Int) : sN (decide (N < 0)) N.natAbs = N := by
  unfold sN; by_cases h : N < 0
  · simp only [h, decide_true, if_true]; omega
  · simp only [h, decide_false, if_false, Bool.false_eq_true]; omega
theorem Z_fp {up : Bool} {p y : Nat} {N e : Int} (hp2 : p ≤ 300) (hy : 0 < y) (hby : bl y ≤ 1000) (he : -1000 ≤ e) : ∃ w' e', Z up p N y e = fp w' e' := by
  rcases Nat.eq_zero_or_pos p with rfl | hp
  · exact ⟨N, e, Z_exact⟩
  by_cases hN : N = 0
  · subst hN; exact ⟨0, 0, by rw [Z_zero]; rfl⟩
  have hx : N.natAbs ≠ 0 := by omega
  have hA := Nat.div_add_mod (N.natAbs * 2 ^ (p + bl y)) y
  have hm := Nat.mod_lt (N.natAbs * 2 ^ (p + bl y)) hy
  have hbig : 2 ^ p ≤ N.natAbs * 2 ^ (p + bl y) / y := by
    rw [Nat.le_div_iff_mul_le hy]
    have g2 := bl_lt y
    calc 2 ^ p * y ≤ 2 ^ p * 2 ^ bl y := Nat.mul_le_mul_left _ (Nat.le_of_lt g2)
      _ = 2 ^ (p + bl y) := by rw [Nat.pow_add]
      _ ≤ N.natAbs * 2 ^ (p + bl y) := Nat.le_mul_of_pos_left _ (by omega)
  rw [← sN_self N]
  by_cases hr : N.natAbs * 2 ^ (p + bl y) % y = 0
  · have e0 : N.natAbs * 2 ^ (p + bl y) = N.natAbs * 2 ^ (p + bl y) / y * y := by rw [hr, Nat.add_zero] at hA; exact hA.symm.trans (Nat.mul_comm _ _)
    have hP : P2 e = 2 ^ (p + bl y) * P2 (e - (p + bl y : Nat)) := by rw [← P2_add (by omega), show e - ((p + bl y : Nat) : Int) + ((p + bl y : Nat) : Int) = e by omega]
    have e1 : sN (decide (N < 0)) (N.natAbs * 2 ^ (p + bl y) / y) * (y : Int) = sN (decide (N < 0)) N.natAbs * ((2 ^ (p + bl y) : Nat) : Int) := by
      unfold sN; split
      · rw [Int.neg_mul, Int.neg_mul, ← Int.natCast_mul, ← Int.natCast_mul, ← e0]
      · rw [← Int.natCast_mul, ← Int.natCast_mul, ← e0]
    have := Z_same (up := up) (p := p) (N := sN (decide (N < 0)) (N.natAbs * 2 ^ (p + bl y) / y)) (N' := sN (decide (N < 0)) N.natAbs) (Dn := 1) (Dn' := y) (e := e - (p + bl y : Nat)) (e' := e) hp (by decide) hy (by
      rw [hP, Int.natCast_mul (2 ^ (p + bl y))]
      calc _ = (sN (decide (N < 0)) (N.natAbs * 2 ^ (p + bl y) / y) * (y : Int)) * (P2 (e - (p + bl y : Nat)) : Int) := by ac_rfl
        _ = _ := by rw [e1, Int.mul_assoc]; simp)
    rw [← this]
    exact Z_fp1 hp2 (by omega)
  · have := Z_sticky (up := up) (b := decide (N < 0)) (p := p) (x := N.natAbs) (y := y) (E := p + bl y) (e := e) hx hp (by rw [Nat.mul_comm (N.natAbs * 2 ^ (p + bl y) / y)]; exact hA.symm) (by omega) hm hbig (by omega)
    rw [← this]
    exact Z_fp1 hp2 (by omega)
theorem Z_nn {up : Bool} {p y : Nat} {N e : Int} (hp2 : p ≤ 300) (hy : 0 < y) (hby : bl y ≤ 1000) (he : -1000 ≤ e) :
    ∃ l, Z up p N y e = .tup l ∧ D.pts l = true ∧ l ≠ [.int 0, .int 0, .int (-123), .int (-1)] := by
  obtain ⟨w', e', h⟩ := Z_fp (up := up) (N := N) hp2 hy hby he
  obtain ⟨l, h1, h2, h3, _⟩ := fp_notnan (w := w') (e := e')
  exact ⟨l, h.trans h1, h2, h3⟩
theorem Z_nn1 {up : Bool} {p : Nat} {N e : Int} (hp2 : p ≤ 300) (he : -1000 ≤ e) :
    ∃ l, Z up p N 1 e = .tup l ∧ D.pts l = true ∧ l ≠ [.int 0, .int 0, .int (-123), .int (-1)] := Z_nn hp2 (by decide) (by decide) he

abbrev iv (a b e : Int) : D := .tup [fp a e, fp b e]
noncomputable abbrev ZZ (p : Nat) (a b : Int) (e : Int) : D := .tup [Z false p a 1 e, Z true p b 1 e]

theorem T_mpi_add (P : Prog c) {n p : Nat} {a b s t e : Int} (he : -1000 ≤ e) (hp : p ≤ 300) (ha : a.natAbs < 2 ^ 100) (hb : b.natAbs < 2 ^ 100) (hs : s.natAbs < 2 ^ 100) (ht : t.natAbs < 2 ^ 100) :
    Tell c (n + 5) "mpi_add" [iv a b e, iv s t e, .int p] (ZZ p (a + s) (b + t) e) := by
  have f1 := P.is_mpf_add
  have g1 := P.g_round_floor; have g2 := P.g_round_ceiling; have g3 := P.g_fnan
  have h1 := T_add4 P (n := n) (p := p) (up := false) (e := e) (by omega) (by omega) ha hs
  have h2 := T_add4 P (n := n) (p := p) (up := true) (e := e) (by omega) (by omega) hb ht
  obtain ⟨l₁, q₁, p₁, n₁⟩ := Z_nn1 (up := false) (p := p) (N := a + s) (e := e) hp he
  obtain ⟨l₂, q₂, p₂, n₂⟩ := Z_nn1 (up := true) (p := p) (N := b + t) (e := e) hp he
  refine P.t_mpi_add3 (n + 4) _ _ _ _ ?_
  unfold c_mpi_add
  rw [ZZ, q₁, q₂]
  rw [q₁] at h1
  rw [q₂] at h2
  repeat' walk_at "bw1"
  refine ⟨_, h1, ?_⟩
  repeat' walk_at "bw1"
  refine ⟨_, h2, ?_⟩
  repeat' walk_at "bw1"
  refine c_teqN p₁ rfl n₁ ?_
  repeat' walk_at "bw1"
  refine c_teqN p₂ rfl n₂ ?_
  repeat' walk_at "bw1"
  rfl
theorem T_mpi_sub (P : Prog c) {n p : Nat} {a b s t e : Int} (he : -1000 ≤ e) (hp : p ≤ 300) (ha : a.natAbs < 2 ^ 100) (hb : b.natAbs < 2 ^ 100) (hs : s.natAbs < 2 ^ 100) (ht : t.natAbs < 2 ^ 100) :
    Tell c (n + 6) "mpi_sub" [iv a b e, iv s t e, .int p] (ZZ p (a - t) (b - s) e) := by
  have f1 := P.is_mpf_sub
  have g1 := P.g_round_floor; have g2 := P.g_round_ceiling; have g3 := P.g_fnan
  have h1 := T_sub4 P (n := n) (p := p) (up := false) (e := e) (by omega) (by omega) ha ht
  have h2 := T_sub4 P (n := n) (p := p) (up := true) (e := e) (by omega) (by omega) hb hs
  obtain ⟨l₁, q₁, p₁, n₁⟩ := Z_nn1 (up := false) (p := p) (N := a - t) (e := e) hp he
  obtain ⟨l₂, q₂, p₂, n₂⟩ := Z_nn1 (up := true) (p := p) (N := b - s) (e := e) hp he
  refine P.t_mpi_sub3 (n + 5) _ _ _ _ ?_
  unfold c_mpi_sub
  rw [ZZ, q₁, q₂]
  rw [q₁] at h1
  rw [q₂] at h2
  repeat' walk_at "bw1"
  refine ⟨_, h1, ?_⟩
  repeat' walk_at "bw1"
  refine ⟨_, h2, ?_⟩
  repeat' walk_at "bw1"
  refine c_teqN p₁ rfl n₁ ?_
  repeat' walk_at "bw1"
  refine c_teqN p₂ rfl n₂ ?_
  repeat' walk_at "bw1"
  rfl
theorem T_mpi_neg2 (P : Prog c) {n p : Nat} {a b e : Int} (he : -1000 ≤ e) (hp : p ≤ 300) : Tell c (n + 5) "mpi_neg" [iv a b e, .int p] (ZZ p (-b) (-a) e) := by
  have f1 := P.is_mpf_neg
  have g1 := P.g_round_floor; have g2 := P.g_round_ceiling
  have h1 := T_neg3 P (n := n) (p := p) (w := b) (up := false) (e := e) (by omega) (by omega)
  have h2 := T_neg3 P (n := n) (p := p) (w := a) (up := true) (e := e) (by omega) (by omega)
  refine P.t_mpi_neg2 (n + 4) _ _ _ ?_
  unfold c_mpi_neg
  repeat' walk_at "bw1"
  refine ⟨_, h1, ?_⟩
  repeat' walk_at "bw1"
  refine ⟨_, h2, ?_⟩
  repeat' walk_at "bw1"
  rfl
theorem T_mpi_neg1 (P : Prog c) {n : Nat} {a b e : Int} (he : -1000 ≤ e) : Tell c (n + 5) "mpi_neg" [iv a b e] (iv (-b) (-a) e) := by
  have f1 := P.is_mpf_neg
  have g1 := P.g_round_floor; have g2 := P.g_round_ceiling
  have h1 := T_neg3 P (n := n) (p := 0) (w := b) (up := false) (e := e) (by omega) (by omega)
  have h2 := T_neg3 P (n := n) (p := 0) (w := a) (up := true) (e := e) (by omega) (by omega)
  rw [Z_exact] at h1 h2
  refine P.t_mpi_neg1 (n + 4) _ _ ?_
  unfold c_mpi_neg
  repeat' walk_at "bw1"
  refine ⟨_, h1, ?_⟩
  repeat' walk_at "bw1"
  refine ⟨_, h2, ?_⟩
  repeat' walk_at "bw1"
  rfl
def absLo (a b : Int) : Int := if 0 ≤ a then a else if 0 ≤ b then 0 else -b
def absHi (a b : Int) : Int := if 0 ≤ a then b else if 0 ≤ b then (if -a < b then b else -a) else -a
theorem sgn3 (a : Int) : (0 ≤ a ↔ 0 ≤ a.sign) ∧ (a ≤ 0 ↔ a.sign ≤ 0) ∧ (a = 0 ↔ a.sign = 0) := by
  rcases Int.lt_trichotomy a 0 with h | h | h
  · rw [Int.sign_eq_neg_one_of_neg h]; omega
  · subst h; simp
  · rw [Int.sign_eq_one_of_pos h]; omega
theorem T_mpi_abs (P : Prog c) {n p : Nat} {a b e : Int} (he : -1000 ≤ e) (hp : p ≤ 300) (ha : a.natAbs < 2 ^ 100) (hb : b.natAbs < 2 ^ 100) :
    Tell c (n + 8) "mpi_abs" [iv a b e, .int p] (ZZ p (absLo a b) (absHi a b) e) := by
  have f1 := P.is_mpf_neg; have f2 := P.is_mpf_sign; have f3 := P.is_mpf_pos; have f4 := P.is_mpf_lt
  have g1 := P.g_round_floor; have g2 := P.g_round_ceiling; have g3 := P.g_fzero
  have s1 := T_sign P (n := n + 6) (w := a) (e := e)
  have s2 := T_sign P (n := n + 6) (w := b) (e := e)
  have k1 := T_pos P (n := n + 3) (p := p) (w := a) (up := false) (e := e) (by omega) (by omega)
  have k2 := T_pos P (n := n + 3) (p := p) (w := b) (up := true) (e := e) (by omega) (by omega)
  have k3 := T_pos P (n := n + 3) (p := p) (w := -a) (up := true) (e := e) (by omega) (by omega)
  have k4 := T_neg1 P (n := n + 6) (w := a) (e := e)
  have k5 := T_lt P (n := n) (w₁ := -a) (w₂ := b) (e := e) (by omega) (by omega) hb
  have k6 := T_neg3 P (n := n + 3) (p := p) (w := b) (up := false) (e := e) (by omega) (by omega)
  have k7 := T_neg3 P (n := n + 3) (p := p) (w := a) (up := true) (e := e) (by omega) (by omega)
  have q1 := sgn3 a
  have q2 := sgn3 b
  refine P.t_mpi_abs2 (n + 7) _ _ _ ?_
  unfold c_mpi_abs absLo absHi
  repeat' walk_at "bw1"
  refine ⟨_, s1, ?_⟩
  repeat' walk_at "bw1"
  refine ⟨_, s2, ?_⟩
  repeat' walk_at "bw1"
  · subst_vars
    rw [if_pos (show 0 ≤ a by omega), if_pos (show 0 ≤ a by omega)]
    refine ⟨_, k1, ?_⟩
    repeat' walk_at "bw1"
    refine ⟨_, k2, ?_⟩
    repeat' walk_at "bw1"
    rfl
  · subst_vars
    rw [if_neg (show ¬ 0 ≤ a by omega), if_neg (show ¬ 0 ≤ a by omega), if_pos (show 0 ≤ b by omega), if_pos (show 0 ≤ b by omega), ZZ, Z_zero]
    refine ⟨_, k4, ?_⟩
    repeat' walk_at "bw1"
    refine ⟨_, k5, ?_⟩
    repeat' walk_at "bw1"
    · rename_i h
      rw [if_pos (by simpa using h)]
      refine ⟨_, k2, ?_⟩
      repeat' walk_at "bw1"
      rfl
    · rename_i h
      rw [if_neg (by simpa using h)]
      refine ⟨_, k3, ?_⟩
      repeat' walk_at "bw1"
      rfl
  · subst_vars
    rw [if_neg (show ¬ 0 ≤ a by omega), if_neg (show ¬ 0 ≤ a by omega), if_neg (show ¬ 0 ≤ b by omega), if_neg (show ¬ 0 ≤ b by omega)]
    refine ⟨_, k6, ?_⟩
    repeat' walk_at "bw1"
    refine ⟨_, k7, ?_⟩
    repeat' walk_at "bw1"
    rfl
end
end
section
open PySem PySem.W PySem.Calls PyProof.Rows PySem.SeqAt
section
variable {c : Cx}
theorem fp_ptn {w e : Int} : D.ptn 3 (fp w e) = true := by
  by_cases hw : w = 0
  · subst hw; rfl
  · rw [fp_raw hw]; rfl
theorem fp_nan {w e : Int} : fp w e ≠ .tup [.int 0, .int 0, .int (-123), .int (-1)] := by
  obtain ⟨l, h1, _, h2, _⟩ := fp_notnan (w := w) (e := e)
  rw [h1]; intro q; injection q with q; exact h2 q
def mulLH (a b s t : Int) : Int × Int :=
  if a = 0 ∧ b = 0 then (0, 0) else if s = 0 ∧ t = 0 then (0, 0) else
    if 0 ≤ a then (if 0 ≤ s then (a * s, b * t) else if t ≤ 0 then (b * s, a * t) else (b * s, b * t))
    else if b ≤ 0 then (if 0 ≤ s then (a * t, b * s) else if t ≤ 0 then (b * t, a * s) else (a * t, a * s))
    else (lmin (a * s) [a * t, b * s, b * t], lmax (a * s) [a * t, b * s, b * t])

theorem mul_z (P : Prog c) {n p : Nat} {a b s t e : Int} (h : (a = 0 ∧ b = 0) ∨ (s = 0 ∧ t = 0)) :
    Tell c (n + 9) "mpi_mul" [iv a b e, iv s t e, .int p] (.tup [fz, fz]) := by
  have f1 := P.is_mpf_sign
  have g1 := P.g_fninf; have g2 := P.g_finf; have g3 := P.g_fzero
  have s1 := T_sign P (n := n + 7) (w := a) (e := e)
  have s2 := T_sign P (n := n + 7) (w := b) (e := e)
  have s3 := T_sign P (n := n + 7) (w := s) (e := e)
  have s4 := T_sign P (n := n + 7) (w := t) (e := e)
  have q1 := sgn3 a
  have q2 := sgn3 b
  have q3 := sgn3 s
  have q4 := sgn3 t
  refine P.t_mpi_mul3 (n + 8) _ _ _ _ ?_
  unfold c_mpi_mul
  obtain ⟨la, ea, pa, _, _, na⟩ := fp_notnan (w := a) (e := e)
  obtain ⟨lb, eb, pb, _, nb, _⟩ := fp_notnan (w := b) (e := e)
  obtain ⟨ls, es, ps, _, _, ns⟩ := fp_notnan (w := s) (e := e)
  obtain ⟨lt, et, pt, _, nt, _⟩ := fp_notnan (w := t) (e := e)
  simp only [iv, ea, eb, es, et] at *
  repeat' walk_at "bw1"
  refine ⟨_, s1, ?_⟩
  repeat' walk_at "bw1"
  refine ⟨_, s2, ?_⟩
  repeat' walk_at "bw1"
  refine ⟨_, s3, ?_⟩
  repeat' walk_at "bw1"
  refine ⟨_, s4, ?_⟩
  repeat' walk_at "bw1"
  all_goals repeat' first
    | (with_reducible refine c_teqN (by assumption) rfl (by assumption) ?_)
    | walk_at "bw1"
  all_goals first | rfl | (exfalso; omega)

theorem prodlt {x y : Int} (hx : x.natAbs < 2 ^ 48) (hy : y.natAbs < 2 ^ 48) : (x * y).natAbs < 2 ^ 100 := by
  rw [Int.natAbs_mul]
  have := Nat.mul_le_mul (Nat.le_of_lt hx) (Nat.le_of_lt hy)
  have e : (2 : Nat) ^ 48 * 2 ^ 48 < 2 ^ 100 := by decide
  omega
set_option maxHeartbeats 4000000 in
theorem T_mpi_mul (P : Prog c) {n p : Nat} {a b s t e : Int} (he : -400 ≤ e) (hp : p ≤ 300) (ha : a.natAbs < 2 ^ 48) (hb : b.natAbs < 2 ^ 48) (hs : s.natAbs < 2 ^ 48) (ht : t.natAbs < 2 ^ 48) :
    Tell c (n + 9) "mpi_mul" [iv a b e, iv s t e, .int p] (ZZ p (mulLH a b s t).1 (mulLH a b s t).2 (e + e)) := by
  by_cases hab : a = 0 ∧ b = 0
  · unfold mulLH; rw [if_pos hab, ZZ, Z_zero, Z_zero]; exact mul_z P (.inl hab)
  by_cases hst : s = 0 ∧ t = 0
  · unfold mulLH; rw [if_neg hab, if_pos hst, ZZ, Z_zero, Z_zero]; exact mul_z P (.inr hst)
  have f1 := P.is_mpf_sign; have f2 := P.is_mpf_mul; have f3 := P.is_mpf_min_max; have f4 := P.is_mpf_pos
  have g1 := P.g_fninf; have g2 := P.g_finf; have g3 := P.g_fzero; have g4 := P.g_fnan; have g5 := P.g_round_floor; have g6 := P.g_round_ceiling
  have s1 := T_sign P (n := n + 7) (w := a) (e := e)
  have s2 := T_sign P (n := n + 7) (w := b) (e := e)
  have s3 := T_sign P (n := n + 7) (w := s) (e := e)
  have s4 := T_sign P (n := n + 7) (w := t) (e := e)
  have q1 := sgn3 a
  have q2 := sgn3 b
  have q3 := sgn3 s
  have q4 := sgn3 t
  have ba := bl_le ha
  have bb := bl_le hb
  have bs := bl_le hs
  have bt := bl_le ht
  obtain ⟨l1, z1, p1, n1⟩ := Z_nn1 (up := false) (p := p) (N := a * s) (e := e + e) hp (by omega)
  obtain ⟨l2, z2, p2, n2⟩ := Z_nn1 (up := false) (p := p) (N := b * s) (e := e + e) hp (by omega)
  obtain ⟨l3, z3, p3, n3⟩ := Z_nn1 (up := false) (p := p) (N := a * t) (e := e + e) hp (by omega)
  obtain ⟨l4, z4, p4, n4⟩ := Z_nn1 (up := false) (p := p) (N := b * t) (e := e + e) hp (by omega)
  obtain ⟨l5, z5, p5, n5⟩ := Z_nn1 (up := true) (p := p) (N := a * s) (e := e + e) hp (by omega)
  obtain ⟨l6, z6, p6, n6⟩ := Z_nn1 (up := true) (p := p) (N := b * s) (e := e + e) hp (by omega)
  obtain ⟨l7, z7, p7, n7⟩ := Z_nn1 (up := true) (p := p) (N := a * t) (e := e + e) hp (by omega)
  obtain ⟨l8, z8, p8, n8⟩ := Z_nn1 (up := true) (p := p) (N := b * t) (e := e + e) hp (by omega)
  have m1 : Tell c (n + 8) "mpf_mul" [fp a e, fp s e, .int p, .str "f"] (.tup l1) := z1 ▸ T_mul4 P (n := n + 4) (up := false) (by omega) (by omega) (by omega) (by omega)
  have m2 : Tell c (n + 8) "mpf_mul" [fp b e, fp s e, .int p, .str "f"] (.tup l2) := z2 ▸ T_mul4 P (n := n + 4) (up := false) (by omega) (by omega) (by omega) (by omega)
  have m3 : Tell c (n + 8) "mpf_mul" [fp a e, fp t e, .int p, .str "f"] (.tup l3) := z3 ▸ T_mul4 P (n := n + 4) (up := false) (by omega) (by omega) (by omega) (by omega)
  have m4 : Tell c (n + 8) "mpf_mul" [fp b e, fp t e, .int p, .str "f"] (.tup l4) := z4 ▸ T_mul4 P (n := n + 4) (up := false) (by omega) (by omega) (by omega) (by omega)
  have m5 : Tell c (n + 8) "mpf_mul" [fp a e, fp s e, .int p, .str "c"] (.tup l5) := z5 ▸ T_mul4 P (n := n + 4) (up := true) (by omega) (by omega) (by omega) (by omega)
  have m6 : Tell c (n + 8) "mpf_mul" [fp b e, fp s e, .int p, .str "c"] (.tup l6) := z6 ▸ T_mul4 P (n := n + 4) (up := true) (by omega) (by omega) (by omega) (by omega)
  have m7 : Tell c (n + 8) "mpf_mul" [fp a e, fp t e, .int p, .str "c"] (.tup l7) := z7 ▸ T_mul4 P (n := n + 4) (up := true) (by omega) (by omega) (by omega) (by omega)
  have m8 : Tell c (n + 8) "mpf_mul" [fp b e, fp t e, .int p, .str "c"] (.tup l8) := z8 ▸ T_mul4 P (n := n + 4) (up := true) (by omega) (by omega) (by omega) (by omega)
  have k1 := T_mul2 P (n := n + 4) (w₁ := a) (w₂ := s) (e₁ := e) (e₂ := e) (by omega)
  have k2 := T_mul2 P (n := n + 4) (w₁ := a) (w₂ := t) (e₁ := e) (e₂ := e) (by omega)
  have k3 := T_mul2 P (n := n + 4) (w₁ := b) (w₂ := s) (e₁ := e) (e₂ := e) (by omega)
  have k4 := T_mul2 P (n := n + 4) (w₁ := b) (w₂ := t) (e₁ := e) (e₂ := e) (by omega)
  have k5 : Tell c (n + 8) "mpf_min_max" [.list [fp (a * s) (e + e), fp (a * t) (e + e), fp (b * s) (e + e), fp (b * t) (e + e)]] _ := T_minmax P (n := n) (e := e + e) (w := a * s) (ws := [a * t, b * s, b * t]) (by omega) (prodlt ha hs)
    (by intro w hw; simp only [List.mem_cons, List.not_mem_nil, or_false] at hw; rcases hw with rfl | rfl | rfl <;> apply prodlt <;> assumption) (by simp)
  have k6 := T_pos P (n := n + 4) (p := p) (w := lmin (a * s) [a * t, b * s, b * t]) (up := false) (e := e + e) (by omega) (by omega)
  have k7 := T_pos P (n := n + 4) (p := p) (w := lmax (a * s) [a * t, b * s, b * t]) (up := true) (e := e + e) (by omega) (by omega)
  have hmix : (mulLH a b s t) = if 0 ≤ a then (if 0 ≤ s then (a * s, b * t) else if t ≤ 0 then (b * s, a * t) else (b * s, b * t))
    else if b ≤ 0 then (if 0 ≤ s then (a * t, b * s) else if t ≤ 0 then (b * t, a * s) else (a * t, a * s))
    else (lmin (a * s) [a * t, b * s, b * t], lmax (a * s) [a * t, b * s, b * t]) := by unfold mulLH; rw [if_neg hab, if_neg hst]
  refine P.t_mpi_mul3 (n + 8) _ _ _ _ ?_
  unfold c_mpi_mul
  clear ha hb hs ht ba bb bs bt he hp
  repeat' walk_at "bw1"
  refine ⟨_, s1, ?_⟩
  repeat' walk_at "bw1"
  refine ⟨_, s2, ?_⟩
  repeat' walk_at "bw1"
  refine ⟨_, s3, ?_⟩
  repeat' walk_at "bw1"
  refine ⟨_, s4, ?_⟩
  repeat' first
    | walk_at "bw1"
    | (with_reducible refine ⟨_, m1, ?_⟩)
    | (with_reducible refine ⟨_, m2, ?_⟩)
    | (with_reducible refine ⟨_, m3, ?_⟩)
    | (with_reducible refine ⟨_, m4, ?_⟩)
    | (with_reducible refine ⟨_, m5, ?_⟩)
    | (with_reducible refine ⟨_, m6, ?_⟩)
    | (with_reducible refine ⟨_, m7, ?_⟩)
    | (with_reducible refine ⟨_, m8, ?_⟩)
    | (with_reducible refine c_teqN (by assumption) rfl (by assumption) ?_)
  all_goals try (rw [hmix]; (repeat' split) <;> first | (exfalso; omega) | (simp only [ZZ, z1, z2, z3, z4, z5, z6, z7, z8]; done))
  all_goals (
    refine ⟨_, k1, ?_⟩
    repeat' walk_at "bw1"
    refine ⟨_, k2, ?_⟩
    repeat' walk_at "bw1"
    refine ⟨_, k3, ?_⟩
    repeat' walk_at "bw1"
    refine ⟨_, k4, ?_⟩
    repeat' walk_at "bw1"
    refine c_inN rfl (by simp only [D.pts, List.all_cons, List.all_nil, fp_ptn]; rfl) (by simp only [List.mem_cons, List.not_mem_nil, or_false]; intro q; rcases q with q | q | q | q <;> exact fp_nan q.symm) ?_
    repeat' walk_at "bw1"
    refine ⟨_, k5, ?_⟩
    repeat' walk_at "bw1"
    refine ⟨_, k6, ?_⟩
    repeat' walk_at "bw1"
    refine ⟨_, k7, ?_⟩
    repeat' walk_at "bw1"
    rw [hmix, if_neg (by omega), if_neg (by omega)])
end
end
section
open PySem PySem.W PySem.Calls PyProof.Rows PySem.SeqAt
section
variable {c : Cx}
def sqLH (a b : Int) : Int × Int := if 0 ≤ a then (a * a, b * b) else if b ≤ 0 then (b * b, a * a) else (0, lmax (-a) [b] * lmax (-a) [b])
theorem lmax2 (x y : Int) : lmax x [y] = if x < y then y else x := rfl
set_option maxHeartbeats 1000000 in
theorem T_mpi_square (P : Prog c) {n p : Nat} {a b e : Int} (he : -400 ≤ e) (hp : p ≤ 300) (ha : a.natAbs < 2 ^ 48) (hb : b.natAbs < 2 ^ 48) :
    Tell c (n + 9) "mpi_square" [iv a b e, .int p] (ZZ p (sqLH a b).1 (sqLH a b).2 (e + e)) := by
  have f1 := P.is_mpf_ge; have f2 := P.is_mpf_mul; have f3 := P.is_mpf_min_max; have f4 := P.is_mpf_le; have f5 := P.is_mpf_neg
  have g3 := P.g_fzero; have g5 := P.g_round_floor; have g6 := P.g_round_ceiling
  have ba := bl_le ha
  have bb := bl_le hb
  have e48 : (2 : Nat) ^ 48 < 2 ^ 100 := by decide
  have s1 := T_ge P (n := n + 1) (w₁ := a) (w₂ := 0) (e := e) (by omega) (by omega) (by decide)
  have s2 := T_le P (n := n + 1) (w₁ := b) (w₂ := 0) (e := e) (by omega) (by omega) (by decide)
  rw [fp_zero] at s1 s2
  have k1 := T_mul4 P (n := n + 4) (p := p) (w₁ := a) (w₂ := a) (e₁ := e) (e₂ := e) (up := false) (by omega) (by omega) (by omega) (by omega)
  have k2 := T_mul4 P (n := n + 4) (p := p) (w₁ := b) (w₂ := b) (e₁ := e) (e₂ := e) (up := true) (by omega) (by omega) (by omega) (by omega)
  have k3 := T_mul4 P (n := n + 4) (p := p) (w₁ := b) (w₂ := b) (e₁ := e) (e₂ := e) (up := false) (by omega) (by omega) (by omega) (by omega)
  have k4 := T_mul4 P (n := n + 4) (p := p) (w₁ := a) (w₂ := a) (e₁ := e) (e₂ := e) (up := true) (by omega) (by omega) (by omega) (by omega)
  have hm : bl (lmax (-a) [b]).natAbs ≤ 48 := by rw [lmax2]; split <;> (try rw [Int.natAbs_neg]) <;> omega
  have k5 := T_mul4 P (n := n + 4) (p := p) (w₁ := lmax (-a) [b]) (w₂ := lmax (-a) [b]) (e₁ := e) (e₂ := e) (up := true) (by omega) (by omega) (by omega) (by omega)
  have k6 := T_neg1 P (n := n + 7) (w := a) (e := e)
  have k7 : Tell c (n + 8) "mpf_min_max" [.list [fp (-a) e, fp b e]] _ := T_minmax P (n := n) (e := e) (w := -a) (ws := [b]) (by omega) (by omega) (by intro w hw; simp only [List.mem_cons, List.not_mem_nil, or_false] at hw; subst hw; omega) (by simp)
  refine P.t_mpi_square2 (n + 8) _ _ _ ?_
  unfold c_mpi_square sqLH
  repeat' walk_at "bw1"
  refine ⟨_, s1, ?_⟩
  repeat' walk_at "bw1"
  · rename_i h
    rw [if_pos (by simpa using h)]
    refine ⟨_, k1, ?_⟩
    repeat' walk_at "bw1"
    refine ⟨_, k2, ?_⟩
    repeat' walk_at "bw1"
    rfl
  · rename_i h
    rw [if_neg (by simpa using h)]
    refine ⟨_, s2, ?_⟩
    repeat' walk_at "bw1"
    · rename_i h
      rw [if_pos (by simpa using h)]
      refine ⟨_, k3, ?_⟩
      repeat' walk_at "bw1"
      refine ⟨_, k4, ?_⟩
      repeat' walk_at "bw1"
      rfl
    · rename_i h
      rw [if_neg (by simpa using h), ZZ, Z_zero]
      refine ⟨_, k6, ?_⟩
      repeat' walk_at "bw1"
      refine ⟨_, k7, ?_⟩
      repeat' walk_at "bw1"
      refine ⟨_, k5, ?_⟩
      repeat' walk_at "bw1"
      rfl

abbrev fni : D := .tup [.int 1, .int 0, .int (-789), .int (-3)]
abbrev fpi : D := .tup [.int 0, .int 0, .int (-456), .int (-2)]
noncomputable abbrev Q (up : Bool) (p : Nat) (x y : Int) (e : Int) : D := Z up p (if y < 0 then -x else x) y.natAbs e
/-- the quotient, the divisor not below nought -/
noncomputable def div0 (p : Nat) (a b s t e : Int) : D :=
  if a = 0 ∧ b = 0 then (if s = 0 ∨ t = 0 then .tup [fni, fpi] else .tup [fz, fz]) else
  if s = 0 then (if (a < 0 ∧ 0 < b) ∨ t = 0 then .tup [fni, fpi] else if 0 ≤ a then .tup [Q false p a t e, fpi] else .tup [fni, Q true p b t e])
  else if 0 ≤ a then .tup [Q false p a t e, Q true p b s e] else if b ≤ 0 then .tup [Q false p a s e, Q true p b t e] else .tup [Q false p a s e, Q true p b s e]
noncomputable def divD (p : Nat) (a b s t e : Int) : D :=
  if a = 0 ∧ b = 0 then (if (s < 0 ∧ 0 < t) ∨ s = 0 ∨ t = 0 then .tup [fni, fpi] else .tup [fz, fz]) else
  if s < 0 ∧ 0 < t then .tup [fni, fpi] else if s < 0 then div0 p (-b) (-a) (-t) (-s) e else div0 p a b s t e

theorem Q_nn {up : Bool} {p : Nat} {x y e : Int} (hp : p ≤ 300) (hy : y ≠ 0) (hyb : y.natAbs < 2 ^ 200) (he : -1000 ≤ e) : ∃ l, Q up p x y e = .tup l ∧ D.pts l = true ∧ l ≠ [.int 0, .int 0, .int (-123), .int (-1)] :=
  Z_nn hp (by omega) (Nat.le_trans (bl_le hyb) (by decide)) he

set_option maxHeartbeats 4000000 in
theorem T_div0 (P : Prog c) {n p : Nat} {a b s t e₁ e₂ : Int} (hp1 : 1 ≤ p) (hp : p ≤ 200) (h1 : -400 ≤ e₁) (h1' : e₁ ≤ 400) (h2 : -400 ≤ e₂) (h2' : e₂ ≤ 400) (ha : a.natAbs < 2 ^ 200) (hb : b.natAbs < 2 ^ 200) (hs : s.natAbs < 2 ^ 200) (ht : t.natAbs < 2 ^ 200) (hab : a ≤ b) (hst : s ≤ t) (h0 : 0 ≤ s) :
    Tell c (n + 6) "mpi_div" [iv a b e₁, iv s t e₂, .int p] (div0 p a b s t (e₁ - e₂)) := by
  have f1 := P.is_mpf_sign; have f2 := P.is_mpf_div
  have g1 := P.g_fninf; have g2 := P.g_finf; have g3 := P.g_fzero; have g4 := P.g_fnan; have g5 := P.g_round_floor; have g6 := P.g_round_ceiling
  have s1 := T_sign P (n := n + 4) (w := a) (e := e₁)
  have s2 := T_sign P (n := n + 4) (w := b) (e := e₁)
  have s3 := T_sign P (n := n + 4) (w := s) (e := e₂)
  have s4 := T_sign P (n := n + 4) (w := t) (e := e₂)
  have q1 := sgn3 a
  have q2 := sgn3 b
  have q3 := sgn3 s
  have q4 := sgn3 t
  have r1 := Int.sign_neg_iff (x := a)
  have kd := fun (x y : Int) (up : Bool) (hx : x.natAbs < 2 ^ 200) (hy : y.natAbs < 2 ^ 200) (h : y ≠ 0) => T_div P (n := n + 1) (p := p) (w₁ := x) (w₂ := y) (e₁ := e₁) (e₂ := e₂) (up := up) hx hy h hp1 hp h1 h1' h2 h2'
  have kn := fun (x y : Int) (up : Bool) (hy : y.natAbs < 2 ^ 200) (h : y ≠ 0) => Q_nn (up := up) (p := p) (x := x) (y := y) (e := e₁ - e₂) (by omega) h hy (by omega)
  have fA : ∀ (x y : Int) (up : Bool), x.natAbs < 2 ^ 200 → y.natAbs < 2 ^ 200 → y ≠ 0 → ∃ l, Q up p x y (e₁ - e₂) = .tup l ∧ D.pts l = true ∧ l ≠ [.int 0, .int 0, .int (-123), .int (-1)] ∧ Tell c (n + 5) "mpf_div" [fp x e₁, fp y e₂, .int p, rn up] (.tup l) := by
    intro x y up hx hy h
    obtain ⟨l, z, q, r⟩ := kn x y up hy h
    exact ⟨l, z, q, r, z ▸ kd x y up hx hy h⟩
  clear kd kn
  by_cases ht0 : t = 0
  · have hs0 : s = 0 := by omega
    refine P.t_mpi_div3 (n + 5) _ _ _ _ ?_
    unfold c_mpi_div
    repeat' walk_at "bw1"
    refine ⟨_, s1, ?_⟩
    repeat' walk_at "bw1"
    refine ⟨_, s2, ?_⟩
    repeat' walk_at "bw1"
    refine ⟨_, s3, ?_⟩
    repeat' walk_at "bw1"
    refine ⟨_, s4, ?_⟩
    repeat' walk_at "bw1"
    all_goals (unfold div0; (repeat' split) <;> first | rfl | (exfalso; omega))
  · obtain ⟨l1, z1, p1, n1, m1⟩ := fA a t false ha ht ht0
    obtain ⟨l2, z2, p2, n2, m2⟩ := fA b t true hb ht ht0
    have m1 : Tell c (n + 5) "mpf_div" [fp a e₁, fp t e₂, .int p, .str "f"] (.tup l1) := m1
    have m2 : Tell c (n + 5) "mpf_div" [fp b e₁, fp t e₂, .int p, .str "c"] (.tup l2) := m2
    by_cases hs0 : s = 0
    · clear fA
      refine P.t_mpi_div3 (n + 5) _ _ _ _ ?_
      unfold c_mpi_div
      repeat' walk_at "bw1"
      refine ⟨_, s1, ?_⟩
      repeat' walk_at "bw1"
      refine ⟨_, s2, ?_⟩
      repeat' walk_at "bw1"
      refine ⟨_, s3, ?_⟩
      repeat' walk_at "bw1"
      refine ⟨_, s4, ?_⟩
      repeat' first
        | walk_at "bw1"
        | (with_reducible refine ⟨_, m1, ?_⟩)
        | (with_reducible refine ⟨_, m2, ?_⟩)
        | fail
      all_goals (unfold div0; (repeat' split) <;> first | (exfalso; omega) | (simp only [z1, z2]; done) | rfl)
    · obtain ⟨l3, z3, p3, n3, m3⟩ := fA a s false ha hs hs0
      obtain ⟨l4, z4, p4, n4, m4⟩ := fA b s true hb hs hs0
      have m3 : Tell c (n + 5) "mpf_div" [fp a e₁, fp s e₂, .int p, .str "f"] (.tup l3) := m3
      have m4 : Tell c (n + 5) "mpf_div" [fp b e₁, fp s e₂, .int p, .str "c"] (.tup l4) := m4
      clear fA
      refine P.t_mpi_div3 (n + 5) _ _ _ _ ?_
      unfold c_mpi_div
      repeat' walk_at "bw1"
      refine ⟨_, s1, ?_⟩
      repeat' walk_at "bw1"
      refine ⟨_, s2, ?_⟩
      repeat' walk_at "bw1"
      refine ⟨_, s3, ?_⟩
      repeat' walk_at "bw1"
      refine ⟨_, s4, ?_⟩
      repeat' first
        | walk_at "bw1"
        | (with_reducible refine ⟨_, m1, ?_⟩)
        | (with_reducible refine ⟨_, m2, ?_⟩)
        | (with_reducible refine ⟨_, m3, ?_⟩)
        | (with_reducible refine ⟨_, m4, ?_⟩)
        | (with_reducible refine c_teqN (by assumption) rfl (by assumption) ?_)
      all_goals (unfold div0; (repeat' split) <;> first | (exfalso; omega) | (simp only [z1, z2, z3, z4]; done) | rfl)
end
end
section
open PySem PySem.W PySem.Calls PyProof.Rows PySem.SeqAt
section
variable {c : Cx}
set_option maxHeartbeats 1000000 in
theorem T_mpi_div (P : Prog c) {n p : Nat} {a b s t e₁ e₂ : Int} (hp1 : 1 ≤ p) (hp : p ≤ 200) (h1 : -400 ≤ e₁) (h1' : e₁ ≤ 400) (h2 : -400 ≤ e₂) (h2' : e₂ ≤ 400) (ha : a.natAbs < 2 ^ 200) (hb : b.natAbs < 2 ^ 200) (hs : s.natAbs < 2 ^ 200) (ht : t.natAbs < 2 ^ 200) (hab : a ≤ b) (hst : s ≤ t) :
    Tell c (n + 7) "mpi_div" [iv a b e₁, iv s t e₂, .int p] (divD p a b s t (e₁ - e₂)) := by
  by_cases h0 : 0 ≤ s
  · have hd : divD p a b s t (e₁ - e₂) = div0 p a b s t (e₁ - e₂) := by
      unfold divD div0
      (repeat' split) <;> first | rfl | (exfalso; omega)
    rw [hd]
    exact (T_div0 P (n := n) hp1 hp h1 h1' h2 h2' ha hb hs ht hab hst h0).mono (by omega)
  · have f1 := P.is_mpf_sign; have f2 := P.is_mpi_div; have f3 := P.is_mpi_neg
    have g1 := P.g_fninf; have g2 := P.g_finf; have g3 := P.g_fzero
    have s1 := T_sign P (n := n + 5) (w := a) (e := e₁)
    have s2 := T_sign P (n := n + 5) (w := b) (e := e₁)
    have s3 := T_sign P (n := n + 5) (w := s) (e := e₂)
    have s4 := T_sign P (n := n + 5) (w := t) (e := e₂)
    have q1 := sgn3 a
    have q2 := sgn3 b
    have q3 := sgn3 s
    have q4 := sgn3 t
    have k1 := T_mpi_neg1 P (n := n + 1) (a := a) (b := b) (e := e₁) (by omega)
    have k2 := T_mpi_neg1 P (n := n + 1) (a := s) (b := t) (e := e₂) (by omega)
    have k3 : t ≤ 0 → _ := fun h => T_div0 P (n := n) (p := p) (a := -b) (b := -a) (s := -t) (t := -s) (e₁ := e₁) (e₂ := e₂) hp1 hp h1 h1' h2 h2' (by omega) (by omega) (by omega) (by omega) (by omega) (by omega) (by omega)
    refine P.t_mpi_div3 (n + 6) _ _ _ _ ?_
    unfold c_mpi_div
    repeat' walk_at "bw1"
    refine ⟨_, s1, ?_⟩
    repeat' walk_at "bw1"
    refine ⟨_, s2, ?_⟩
    repeat' walk_at "bw1"
    refine ⟨_, s3, ?_⟩
    repeat' walk_at "bw1"
    refine ⟨_, s4, ?_⟩
    repeat' first
      | walk_at "bw1"
      | (with_reducible refine ⟨_, k1, ?_⟩)
      | (with_reducible refine ⟨_, k2, ?_⟩)
      | (with_reducible refine ⟨_, k3 (by omega), ?_⟩)
      | fail
    all_goals (unfold divD; (repeat' split) <;> first | (exfalso; omega) | rfl)
def powLH (k : Nat) (a b : Int) : Int × Int :=
  if k = 2 then sqLH a b else if k % 2 = 1 then (a ^ k, b ^ k) else
    if 0 ≤ a then (a ^ k, b ^ k) else if b ≤ 0 then (b ^ k, a ^ k) else (0, if b ≤ -a then (-a) ^ k else b ^ k)
set_option maxHeartbeats 2000000 in
theorem T_pow_pos (P : Prog c) {n p k : Nat} {a b e : Int} (hk : 2 ≤ k) (hk2 : k ≤ 6) (hp1 : 1 ≤ p) (hp : p ≤ 200) (he : -100 ≤ e) (he2 : e ≤ 100) (ha : a.natAbs < 2 ^ 48) (hb : b.natAbs < 2 ^ 48) :
    Tell c (n + 10) "mpi_pow_int" [iv a b e, .int k, .int p] (ZZ p (powLH k a b).1 (powLH k a b).2 (e * k)) := by
  have f1 := P.is_mpf_sign; have f2 := P.is_mpf_pow_int; have f3 := P.is_mpi_square; have f4 := P.is_mpf_ge; have f5 := P.is_mpf_neg
  have g3 := P.g_fzero; have g5 := P.g_round_floor; have g6 := P.g_round_ceiling
  have e48 : (2 : Nat) ^ 48 < 2 ^ 100 := by decide
  have s1 := T_sign P (n := n + 8) (w := a) (e := e)
  have s2 := T_sign P (n := n + 8) (w := b) (e := e)
  have q1 := sgn3 a
  have q2 := sgn3 b
  have k0 := T_mpi_square P (n := n) (p := p) (a := a) (b := b) (e := e) (by omega) (by omega) ha hb
  have hand := and_one k
  refine P.t_mpi_pow_int3 (n + 9) _ _ _ _ ?_
  unfold c_mpi_pow_int
  rcases Nat.lt_or_ge k 3 with h3 | h3
  · repeat' first
      | walk_at "bw1"
      | (with_reducible refine ⟨_, k0, ?_⟩)
      | fail
    have : k = 2 := by omega
    subst this
    unfold powLH
    rw [if_pos rfl, show e * ((2 : Nat) : Int) = e + e by omega]
  · have k1 : Tell c (n + 9) "mpf_pow_int" [fp a e, .int k, .int p, .str "f"] _ := T_pow P (n := n + 5) (p := p) (k := k) (w := a) (e := e) (up := false) (by omega) h3 hk2 hp1 hp he he2
    have k2 : Tell c (n + 9) "mpf_pow_int" [fp b e, .int k, .int p, .str "f"] _ := T_pow P (n := n + 5) (p := p) (k := k) (w := b) (e := e) (up := false) (by omega) h3 hk2 hp1 hp he he2
    have k3 : Tell c (n + 9) "mpf_pow_int" [fp a e, .int k, .int p, .str "c"] _ := T_pow P (n := n + 5) (p := p) (k := k) (w := a) (e := e) (up := true) (by omega) h3 hk2 hp1 hp he he2
    have k4 : Tell c (n + 9) "mpf_pow_int" [fp b e, .int k, .int p, .str "c"] _ := T_pow P (n := n + 5) (p := p) (k := k) (w := b) (e := e) (up := true) (by omega) h3 hk2 hp1 hp he he2
    have k5 : Tell c (n + 9) "mpf_pow_int" [fp (-a) e, .int k, .int p, .str "c"] _ := T_pow P (n := n + 5) (p := p) (k := k) (w := -a) (e := e) (up := true) (by omega) h3 hk2 hp1 hp he he2
    have k6 := T_neg1 P (n := n + 8) (w := a) (e := e)
    have k7 := T_ge P (n := n + 2) (w₁ := -a) (w₂ := b) (e := e) (by omega) (by omega) (by omega)
    have hL : powLH k a b = if k % 2 = 1 then (a ^ k, b ^ k) else
      if 0 ≤ a then (a ^ k, b ^ k) else if b ≤ 0 then (b ^ k, a ^ k) else (0, if b ≤ -a then (-a) ^ k else b ^ k) := by unfold powLH; rw [if_neg (by omega)]
    clear ha hb e48 k0
    repeat' first
      | walk_at "bw1"
      | (with_reducible refine ⟨_, s1, ?_⟩)
      | (with_reducible refine ⟨_, s2, ?_⟩)
      | (with_reducible refine ⟨_, k1, ?_⟩)
      | (with_reducible refine ⟨_, k2, ?_⟩)
      | (with_reducible refine ⟨_, k3, ?_⟩)
      | (with_reducible refine ⟨_, k4, ?_⟩)
      | (with_reducible refine ⟨_, k5, ?_⟩)
      | (with_reducible refine ⟨_, k6, ?_⟩)
      | (with_reducible refine ⟨_, k7, ?_⟩)
      | fail
    · rw [hL, if_pos (by omega)]; try rfl
    · rw [hL, if_neg (by omega), if_pos (by omega)]; try rfl
    · rw [hL, if_neg (by omega), if_neg (by omega), if_pos (by omega)]; try rfl
    · rename_i hh
      rw [hL, if_neg (by omega), if_neg (by omega), if_neg (by omega), ZZ, Z_zero, if_pos (by simpa using hh)]
    · rename_i hh
      rw [hL, if_neg (by omega), if_neg (by omega), if_neg (by omega), ZZ, Z_zero, if_neg (by simpa using hh)]

theorem T_pow0 (P : Prog c) {n : Nat} {a b e p : Int} : Tell c (n + 1) "mpi_pow_int" [iv a b e, .int 0, .int p] (iv 1 1 0) := by
  have g1 := P.g_fone
  have h1 : fp 1 0 = .tup [.int 0, .int 1, .int 0, .int 1] := by rw [fp_ne (by decide)]; simp [od_odd' (n := 1) rfl, tz_odd (n := 1) rfl]; rfl
  refine P.t_mpi_pow_int3 n _ _ _ _ ?_
  unfold c_mpi_pow_int
  repeat' walk_at "bw1"
  rw [iv, h1]
theorem T_pow1 (P : Prog c) {n : Nat} {a b e p : Int} : Tell c (n + 1) "mpi_pow_int" [iv a b e, .int 1, .int p] (iv a b e) := by
  refine P.t_mpi_pow_int3 n _ _ _ _ ?_
  unfold c_mpi_pow_int
  repeat' walk_at "bw1"
  rfl
def Few (w : Int) : Prop := ∃ (v : Int) (j : Nat), w = v * 2 ^ j ∧ v.natAbs < 2 ^ 11
theorem Few.neg {w : Int} (h : Few w) : Few (-w) := by
  obtain ⟨v, j, rfl, hv⟩ := h
  exact ⟨-v, j, by rw [Int.neg_mul], by omega⟩
theorem Few.bl {w : Int} (h : Few w) {up : Bool} {p k : Nat} {e : Int} (hk : k ≤ 3) (hp : 40 ≤ p) (hp2 : p ≤ 300) (he : -1000 ≤ e) : Z up p (w ^ k) 1 e = fp (w ^ k) e := by
  obtain ⟨v, j, rfl, hv⟩ := h
  rw [Int.mul_pow, ← Int.pow_mul, Z_shift (by omega), fp_shift]
  by_cases h0 : v ^ k = 0
  · rw [h0, Z_zero]; rfl
  · refine Z_fits h0 (by omega) ?_ (by omega)
    rw [Int.natAbs_pow]
    have := bl_pow_le (bl_le hv) hk (by decide)
    omega
theorem few_sq {w : Int} (h : Few w) {up : Bool} {p : Nat} {e : Int} (hp : 40 ≤ p) (hp2 : p ≤ 300) (he : -1000 ≤ e) : Z up p (w * w) 1 e = fp (w * w) e := by
  have := h.bl (up := up) (p := p) (k := 2) (e := e) (by decide) hp hp2 he
  rw [show w ^ 2 = w * w by rw [Int.pow_succ, Int.pow_succ, Int.pow_zero, Int.one_mul]] at this
  exact this
theorem few_powLH {a b e : Int} {p k : Nat} (ha : Few a) (hb : Few b) (hk : 2 ≤ k) (hk2 : k ≤ 3) (hp : 40 ≤ p) (hp2 : p ≤ 300) (he : -1000 ≤ e) :
    ZZ p (powLH k a b).1 (powLH k a b).2 e = iv (powLH k a b).1 (powLH k a b).2 e := by
  unfold powLH sqLH ZZ iv
  have hz : ∀ up, Z up p 0 1 e = fp 0 e := fun up => by rw [Z_zero]; rfl
  have hm : Few (lmax (-a) [b]) := by rw [lmax2]; split; exact hb; exact ha.neg
  (repeat' split) <;> first
    | (simp only [few_sq ha hp hp2 he, few_sq hb hp hp2 he, few_sq hm hp hp2 he, ha.bl hk2 hp hp2 he, hb.bl hk2 hp hp2 he, ha.neg.bl hk2 hp hp2 he, hz]; done)
    | (simp only [few_sq ha hp hp2 he, few_sq hb hp hp2 he, few_sq hm hp hp2 he, ha.bl hk2 hp hp2 he, hb.bl hk2 hp hp2 he, ha.neg.bl hk2 hp hp2 he, hz]; rfl)
end
end
section
open PySem PySem.W PySem.Calls PyProof.Rows PySem.SeqAt
section
theorem pow_nn {x : Int} (h : 0 ≤ x) : ∀ k : Nat, 0 ≤ x ^ k
  | 0 => by rw [Int.pow_zero]; decide
  | k + 1 => by rw [Int.pow_succ]; exact Int.mul_nonneg (pow_nn h k) h
theorem pow_mono_nn {x y : Int} (h0 : 0 ≤ x) (h : x ≤ y) : ∀ k : Nat, x ^ k ≤ y ^ k
  | 0 => by rw [Int.pow_zero, Int.pow_zero]; decide
  | k + 1 => by
    rw [Int.pow_succ, Int.pow_succ]
    exact Int.mul_le_mul (pow_mono_nn h0 h k) h h0 (pow_nn (by omega) k)
theorem neg_pow_even (x : Int) : ∀ m : Nat, (-x) ^ (2 * m) = x ^ (2 * m)
  | 0 => by rw [Nat.mul_zero, Int.pow_zero, Int.pow_zero]
  | m + 1 => by
    rw [show 2 * (m + 1) = 2 * m + 1 + 1 by omega, Int.pow_succ, Int.pow_succ, Int.pow_succ, Int.pow_succ, neg_pow_even x m, Int.mul_neg, Int.mul_neg, Int.neg_mul, Int.neg_neg]
theorem neg_pow_odd (x : Int) (m : Nat) : (-x) ^ (2 * m + 1) = -(x ^ (2 * m + 1)) := by
  rw [Int.pow_succ, Int.pow_succ, neg_pow_even, Int.mul_neg]
theorem odd_mono {a b : Int} {k : Nat} (hk : k % 2 = 1) (h : a ≤ b) : a ^ k ≤ b ^ k := by
  obtain ⟨m, rfl⟩ : ∃ m, k = 2 * m + 1 := ⟨k / 2, by omega⟩
  have na := neg_pow_odd a m
  have nb := neg_pow_odd b m
  rcases Int.lt_or_le a 0 with ha | ha
  · rcases Int.lt_or_le 0 b with hb | hb
    · have h1 := pow_nn (x := -a) (by omega) (2 * m + 1)
      have h2 := pow_nn (x := b) (by omega) (2 * m + 1)
      omega
    · have := pow_mono_nn (x := -b) (y := -a) (by omega) (by omega) (2 * m + 1)
      omega
  · exact pow_mono_nn ha h _
theorem even_nn {a : Int} {k : Nat} (hk : k % 2 = 0) : 0 ≤ a ^ k := by
  obtain ⟨m, rfl⟩ : ∃ m, k = 2 * m := ⟨k / 2, by omega⟩
  rcases Int.lt_or_le a 0 with ha | ha
  · rw [← neg_pow_even]; exact pow_nn (by omega) _
  · exact pow_nn ha _
theorem even_mono_nn {a b : Int} {k : Nat} (ha : 0 ≤ a) (h : a ≤ b) : a ^ k ≤ b ^ k := pow_mono_nn ha h k
theorem even_mono_np {a b : Int} {k : Nat} (hk : k % 2 = 0) (hb : b ≤ 0) (h : a ≤ b) : b ^ k ≤ a ^ k := by
  obtain ⟨m, rfl⟩ : ∃ m, k = 2 * m := ⟨k / 2, by omega⟩
  rw [← neg_pow_even b, ← neg_pow_even a]
  exact pow_mono_nn (by omega) (by omega) _
theorem sq_pow (x : Int) : x * x = x ^ 2 := by rw [Int.pow_succ, Int.pow_succ, Int.pow_zero, Int.one_mul]
/-- the least and the greatest power of the points -/
def pwLH (k : Nat) (a b : Int) : Int × Int :=
  if k % 2 = 1 then (a ^ k, b ^ k) else if 0 ≤ a then (a ^ k, b ^ k) else if b ≤ 0 then (b ^ k, a ^ k) else (0, if b ≤ -a then a ^ k else b ^ k)
theorem powLH_eq {k : Nat} {a b : Int} : powLH k a b = pwLH k a b := by
  unfold powLH pwLH sqLH
  by_cases h2 : k = 2
  · subst h2
    have h21 : ¬ (2 % 2 = 1) := by decide
    have hsq := neg_pow_even a 1
    rw [Nat.mul_one] at hsq
    simp only [sq_pow, lmax2, if_true, if_neg h21]
    by_cases h0 : 0 ≤ a
    · rw [if_pos h0, if_pos h0]
    · rw [if_neg h0, if_neg h0]
      by_cases hb : b ≤ 0
      · rw [if_pos hb, if_pos hb]
      · rw [if_neg hb, if_neg hb]
        by_cases h : b ≤ -a
        · rw [if_pos h, if_neg (by omega), hsq]
        · rw [if_neg h, if_pos (by omega)]
  · rw [if_neg h2]
    split
    · rfl
    · rename_i hk
      obtain ⟨m, hm⟩ : ∃ m, k = 2 * m := ⟨k / 2, by omega⟩
      have := neg_pow_even a m
      rw [← hm] at this
      rw [this]
theorem pwLH_le {k : Nat} {a b : Int} (h : a ≤ b) : (pwLH k a b).1 ≤ (pwLH k a b).2 := by
  unfold pwLH
  split
  · exact odd_mono (by assumption) h
  · rename_i hk
    split
    · exact even_mono_nn (by assumption) h
    · split
      · exact even_mono_np (by omega) (by assumption) h
      · show (0 : Int) ≤ if b ≤ -a then a ^ k else b ^ k
        split <;> exact even_nn (by omega)
theorem pow_bound {a : Int} {k : Nat} (ha : a.natAbs < 2 ^ 48) (hk : k ≤ 3) : (a ^ k).natAbs < 2 ^ 200 := by
  rw [Int.natAbs_pow]
  have h1 := bl_pow_le (bl_le ha) hk (by decide)
  have h2 := bl_lt (a.natAbs ^ k)
  exact Nat.lt_of_lt_of_le h2 (Nat.pow_le_pow_right (by decide) (by omega))
theorem pwLH_bound {k : Nat} {a b : Int} (hk : k ≤ 3) (ha : a.natAbs < 2 ^ 48) (hb : b.natAbs < 2 ^ 48) : (pwLH k a b).1.natAbs < 2 ^ 200 ∧ (pwLH k a b).2.natAbs < 2 ^ 200 := by
  have h1 := pow_bound ha hk
  have h2 := pow_bound hb hk
  have h0 : Int.natAbs 0 < 2 ^ 200 := by decide
  unfold pwLH
  (repeat' split) <;> first | exact ⟨h1, h2⟩ | exact ⟨h2, h1⟩ | exact ⟨h0, h1⟩ | exact ⟨h0, h2⟩
theorem pwLH_one {a b : Int} : pwLH 1 a b = (a, b) := by
  unfold pwLH; rw [if_pos rfl]; simp [Int.pow_succ]
variable {c : Cx}
theorem fone_eq : fp 1 0 = .tup [.int 0, .int 1, .int 0, .int 1] := by rw [fp_ne (by decide)]; simp [od_odd' (n := 1) rfl, tz_odd (n := 1) rfl]; rfl

theorem T_pow_neg (P : Prog c) {n p k : Nat} {a b e : Int} (hk : 1 ≤ k) (hk2 : k ≤ 3) (hp1 : 20 ≤ p) (hp : p ≤ 100) (he : -100 ≤ e) (he2 : e ≤ 100) (ha : a.natAbs < 2 ^ 48) (hb : b.natAbs < 2 ^ 48) (fa : Few a) (fb : Few b) (hab : a ≤ b) :
    Tell c (n + 11) "mpi_pow_int" [iv a b e, .int (-(k : Int)), .int p] (divD p 1 1 (pwLH k a b).1 (pwLH k a b).2 (0 - e * k)) := by
  have f1 := P.is_mpi_div; have f2 := P.is_mpi_pow_int
  have g1 := P.g_fone
  have hek : -400 ≤ e * k ∧ e * k ≤ 400 := by
    have h1 : k = 1 ∨ k = 2 ∨ k = 3 := by omega
    rcases h1 with rfl | rfl | rfl <;> omega
  obtain ⟨b1, b2⟩ := pwLH_bound hk2 ha hb
  have hinv : Tell c (n + 10) "mpi_pow_int" [iv a b e, .int k, .int ((p : Int) + 20)] (iv (pwLH k a b).1 (pwLH k a b).2 (e * k)) := by
    by_cases h1 : k = 1
    · subst h1
      rw [pwLH_one, show e * ((1 : Nat) : Int) = e by omega]
      exact (T_pow1 P (n := n)).mono (by omega)
    · have h2 := T_pow_pos P (n := n) (p := p + 20) (k := k) (a := a) (b := b) (e := e) (by omega) (by omega) (by omega) (by omega) he he2 ha hb
      rw [few_powLH fa fb (by omega) hk2 (by omega) (by omega) (by omega), powLH_eq] at h2
      rw [show ((p : Int) + 20) = ((p + 20 : Nat) : Int) by push_cast; rfl]
      exact h2
  have hd := T_mpi_div P (n := n + 3) (p := p) (a := 1) (b := 1) (s := (pwLH k a b).1) (t := (pwLH k a b).2) (e₁ := 0) (e₂ := e * k) (by omega) (by omega) (by omega) (by omega) (by omega) (by omega) (by decide) (by decide) b1 b2 (by decide) (pwLH_le hab)
  refine P.t_mpi_pow_int3 (n + 10) _ _ _ _ ?_
  unfold c_mpi_pow_int
  rw [iv, fone_eq] at hd
  repeat' walk_at "bw1"
  rw [Int.neg_neg]
  refine ⟨_, hinv, ?_⟩
  repeat' walk_at "bw1"
  exact ⟨_, hd, rfl⟩
end
end
section
open PySem PySem.W PySem.Calls PyProof.Rows PySem.SeqAt
section
variable {FN : Str → Prop} {T : Str → List D → D → Prop} {G : Str → D → Prop} {GD : Str → Str → D → Prop} {ρ : Rho} {K : Fl → Prop} {Q : D → Prop} {P N : Prop}
theorem r_len {a : PE} (h : pE FN T G GD a ρ (dList fun l => l.length ≤ 1000 ∧ Q (.int l.length))) : pE FN T G GD (.len a) ρ Q := by
  have : (dList fun l => l.length ≤ 1000 ∧ Q (.int l.length)) = (fun x => (match x with | .list l => l.length ≤ 1000 ∧ Q (.int l.length) | _ => False)) := by funext d; cases d <;> rfl
  rw [this] at h; exact h
theorem r_whl {c : PE} {body r : PS} (n : Nat) (h : pWhl (fun ρ P N => pT FN T G GD c ρ P N) (fun ρ K => pS FN T G GD body ρ K) n ρ (kn FN T G GD r K)) : pS FN T G GD (.whl c body r) ρ K := ⟨n, h⟩
theorem r_whlS {c : PE} {body : PS} {n : Nat} {K' : Fl → Prop} (h : pT FN T G GD c ρ (pS FN T G GD body ρ (fun fl => (match fl with | .nx ρ' => pWhl (fun ρ P N => pT FN T G GD c ρ P N) (fun ρ K => pS FN T G GD body ρ K) n ρ' K' | .rt v => K' (.rt v)))) (K' (.nx ρ))) :
    pWhl (fun ρ P N => pT FN T G GD c ρ P N) (fun ρ K => pS FN T G GD body ρ K) (n + 1) ρ K' := h
theorem r_dnx (h : K (.nx ρ)) : pS FN T G GD .done ρ K := h
end
section
variable {c : Cx}
theorem fdiv2 (m : Nat) : (m : Int).fdiv 2 = ((m / 2 : Nat) : Int) := by
  have := shr_floor m 1
  exact this
theorem fmod_nat (a b : Nat) : (a : Int).fmod (b : Int) = ((a % b : Nat) : Int) := by
  rw [Int.fmod_eq_emod_of_nonneg _ (Int.natCast_nonneg _)]; rfl
theorem fdiv_nat (a b : Nat) : (a : Int).fdiv (b : Int) = ((a / b : Nat) : Int) := by
  rw [Int.fdiv_eq_ediv_of_nonneg _ (Int.natCast_nonneg _)]; rfl
abbrev c_toldtest : PE := .cmp .Eq (.bin .Mod (.var 2) (.cst (.int 2))) (.cst (.int 0))
abbrev c_toldstep : PS := .unpR [2, 1] (.tup (.cons (.bin .FloorDiv (.var 2) (.cst (.int 2))) (.cons (.bin .Add (.var 1) (.cst (.int 1))) .nil)))
 .done
theorem toldLoop {n : Nat} {w0 s0 x4 : Option D} {K : Fl → Prop} : ∀ (m : Nat) (p : Int), m ≠ 0 → (K (.nx [w0, some (.int (p + tz m)), some (.int (od m)), s0, x4])) →
    pWhl (fun ρ P N => qT c n c_toldtest ρ P N) (fun ρ K => qS c n c_toldstep ρ K) (tz m + 1) [w0, some (.int p), some (.int m), s0, x4] K := by
  intro m
  induction m using Nat.strongRecOn with
  | ind m ih =>
    intro p hm h
    have hmod : (m : Int).fmod 2 = ((m % 2 : Nat) : Int) := fmod_nat m 2
    by_cases h2 : m % 2 = 0
    · have ht := tz_even hm h2
      rw [ht]
      refine r_whlS ?_
      have ihh := ih (m / 2) (by omega) (p + 1) (by omega) (by rw [show p + 1 + (tz (m / 2) : Int) = p + tz m by rw [ht]; push_cast; omega, ← od_even hm h2]; exact h)
      repeat' walk_at "bw1"
      · refine b_div (by decide) (noPylong (by decide)) ?_
        repeat' walk_at "bw1"
        refine r_dnx ?_
        rw [fdiv2]
        exact ihh
    · have ht := tz_odd (n := m) (by omega)
      have ho := od_odd' (n := m) (by omega)
      rw [ht] at h ⊢
      rw [ho] at h
      refine r_whlS ?_
      repeat' walk_at "bw1"
      · simpa using h
theorem T_told (P : Prog c) {n : Nat} {w e : Int} : Tell c (n + 1) "_law_told" [.int w, .int e] (fp w e) := by
  refine P.t_law_told2 n _ _ _ ?_
  unfold c_law_told
  by_cases hw : w = 0
  · subst hw
    repeat' walk_at "bw1"
    rw [fp_zero]
  · rw [fp_ne hw]
    have hna : (if w < 0 then -w else w) = (w.natAbs : Int) := by split <;> omega
    repeat' walk_at "bw1"
    · rw [hna]
      refine r_whl (tz w.natAbs + 1) (toldLoop _ _ (by omega) ?_)
      refine r_knx ?_
      repeat' walk_at "bw1"
      rw [if_pos (by omega), ibl]
    · rw [hna]
      refine r_whl (tz w.natAbs + 1) (toldLoop _ _ (by omega) ?_)
      refine r_knx ?_
      repeat' walk_at "bw1"
      rw [if_neg (by omega), ibl]
end
end
section
open PySem PySem.W PySem.Calls PyProof.Rows PySem.SeqAt
section
variable {c : Cx}
theorem powOk2 {j : Int} (h0 : 0 ≤ j) (h1 : j ≤ 5000) : PowOk 2 j := PowOk.of (n := 2) (k := 5000) (by decide) h1 h0 (by decide)
theorem mulPow {a : Int} {k : Nat} (h : bl a.natAbs ≤ 3000) (hk : k ≤ 5000) : IntMulOk a (2 ^ k) := by
  refine mulOk ?_
  rw [pow_cast, Int.natAbs_natCast, bl_pow]; omega
theorem rd_law {away : Bool} {a u : Nat} (hu : 0 < u) : RdQ away (a / u + if away = true ∧ a % u > 0 then 1 else 0) a u := by
  have h1 := Nat.div_add_mod a u
  have h2 := Nat.mod_lt a hu
  unfold RdQ
  rw [Nat.mul_comm] at h1
  cases away
  · simp only [Bool.false_eq_true, false_and, if_false, Nat.add_zero]
    rw [Nat.add_mul, Nat.one_mul]
    omega
  · simp only [true_and, if_true]
    by_cases h3 : a % u > 0
    · rw [if_pos h3, Nat.add_mul, Nat.one_mul]
      omega
    · rw [if_neg h3, Nat.add_zero]
      omega
abbrev c_end2 : PS := .unp [8, 9] (.ite (.cmp .Lt (.var 7) (.cst (.int 0))) (.tup (.cons (.bin .Mult (.var 5) (.bin .Pow (.cst (.int 2)) (.neg (.var 7)))) (.cons (.var 4) .nil))) (.tup (.cons (.var 5) (.cons (.bin .Mult (.var 4) (.bin .Pow (.cst (.int 2)) (.var 7))) .nil))))
 (.asg 10 (.bin .Add (.bin .FloorDiv (.var 8) (.var 9)) (.ite (.and (.var 6) (.cmp .Gt (.bin .Mod (.var 8) (.var 9)) (.cst (.int 0)))) (.cst (.int 1)) (.cst (.int 0))))
 (.ret (.call "_law_told" (.cons (.ite (.cmp .Lt (.var 3) (.cst (.int 0))) (.neg (.var 10)) (.var 10)) (.cons (.var 7) .nil)))))
set_option maxHeartbeats 1000000 in
theorem end2 (P : Prog c) {n p a Dn : Nat} {N t : Int} {up away : Bool} {ρ : Rho} {x0 x1 x2 x8 x9 x10 x11 x12 : Option D} (hN : N.natAbs = a) (ha : bl a ≤ 500) (hD : 0 < Dn) (hDb : bl Dn ≤ 500) (hp : 1 ≤ p) (haw : N ≠ 0 → away = (up == decide (0 < N)))
    (hρ : ρ = [x0, x1, x2, some (.int N), some (.int Dn), some (.int a), some (.bool away), some (.int t), x8, x9, x10, x11, x12]) (ht1 : -2000 ≤ t) (ht2 : t ≤ 2000)
    (hlo : N ≠ 0 → 2 ^ (p - 1) * (Dn * P2 t) ≤ a * P2 0) (hhi : N ≠ 0 → a * P2 0 < 2 ^ p * (Dn * P2 t)) : qS c (n + 1) c_end2 ρ (fun fl => fl = .rt (Z up p N Dn 0)) := by
  subst hρ
  have f1 := P.is_law_told
  have hT := fun (q : Int) => T_told P (n := n) (w := q) (e := t)
  have main : ∀ A U : Nat, 0 < U → (∃ s : Nat, 0 < s ∧ a * P2 0 = A * s ∧ Dn * P2 t = U * s) → fp (if N < 0 then -(((A / U + if away = true ∧ A % U > 0 then 1 else 0 : Nat)) : Int) else ((A / U + if away = true ∧ A % U > 0 then 1 else 0 : Nat) : Int)) t = Z up p N Dn 0 := by
    rintro A U hU ⟨s, hs, e1, e2⟩
    by_cases h0 : N = 0
    · subst h0
      have ha0 : a = 0 := by omega
      subst ha0
      have hA : A = 0 := by
        rw [Nat.zero_mul] at e1
        rcases Nat.mul_eq_zero.mp e1.symm with h | h <;> omega
      subst hA
      rw [Z_zero]; simp [fp]
    · have hq := rd_law (away := away) (a := A) hU
      have hR : Rd (up == decide (0 < N)) p N.natAbs Dn 0 (A / U + if away = true ∧ A % U > 0 then 1 else 0) t := by
        refine ⟨by rw [hN]; exact hlo h0, by rw [hN]; exact hhi h0, ?_, by omega⟩
        rw [hN, e1, e2, ← haw h0]
        exact hq.scale hs
      rw [Z_eq h0 hp hD hR]
      rfl
  rcases Int.lt_or_le t 0 with hneg | hpos
  · obtain ⟨k, rfl⟩ : ∃ k : Nat, t = -(k : Int) := ⟨(-t).toNat, by omega⟩
    have hP : P2 0 = 2 ^ k * P2 (-(k : Int)) := by rw [← P2_add (by omega), show -(k : Int) + k = 0 by omega]
    have hm := main (a * 2 ^ k) Dn hD ⟨P2 (-(k : Int)), P2_pos _, by rw [hP, Nat.mul_assoc], rfl⟩
    have m1 : IntMulOk a (2 ^ k) := mulPow (by rw [Int.natAbs_natCast]; omega) (by omega)
    have m2 : PowOk 2 (k : Int) := powOk2 (by omega) (by omega)
    have hnk : - -(k : Int) = (k : Int) := by omega
    have ev : (a : Int) * 2 ^ k = ((a * 2 ^ k : Nat) : Int) := by push_cast; rfl
    have ed := fdiv_nat (a * 2 ^ k) Dn
    have em := fmod_nat (a * 2 ^ k) Dn
    have hny := noPylong (a := ((a * 2 ^ k : Nat) : Int)) (b := Dn) (by rw [Int.natAbs_natCast]; omega)
    generalize a * 2 ^ k = A at *
    clear main
    have clos : ∀ v : Int, v = (if N < 0 then -(((A / Dn + if away = true ∧ A % Dn > 0 then 1 else 0 : Nat)) : Int) else ((A / Dn + if away = true ∧ A % Dn > 0 then 1 else 0 : Nat) : Int)) → Fl.rt (fp v (-(k : Int))) = Fl.rt (Z up p N Dn 0) := fun v h => by rw [h, hm]
    clear hm
    cases away <;> simp only [Bool.false_eq_true, false_and, true_and, if_false] at clos
    all_goals repeat' walk_at "bw1"
    all_goals (rw [hnk]; refine b_pow (by omega) m2 ?_; rw [Int.toNat_natCast]; refine b_mul m1 ?_; rw [ev])
    all_goals repeat' walk_at "bw1"
    all_goals (refine b_div (by omega) hny ?_; rw [ed])
    all_goals repeat' walk_at "bw1"
    all_goals try (refine b_mod (by omega) ?_; rw [em])
    all_goals repeat' walk_at "bw1"
    all_goals refine ⟨_, hT _, clos _ ?_⟩
    all_goals ((repeat' split) <;> omega)
  · obtain ⟨k, rfl⟩ : ∃ k : Nat, t = (k : Int) := ⟨t.toNat, by omega⟩
    have hP : P2 (k : Int) = 2 ^ k * P2 0 := by rw [← P2_add (by omega), show (0 : Int) + k = k by omega]
    have hU : 0 < Dn * 2 ^ k := Nat.mul_pos hD (pow_pos' k)
    have hm := main a (Dn * 2 ^ k) hU ⟨P2 0, P2_pos _, rfl, by rw [hP, Nat.mul_assoc]⟩
    have m1 : IntMulOk Dn (2 ^ k) := mulPow (by rw [Int.natAbs_natCast]; omega) (by omega)
    have m2 : PowOk 2 (k : Int) := powOk2 (by omega) (by omega)
    have ev : (Dn : Int) * 2 ^ k = ((Dn * 2 ^ k : Nat) : Int) := by push_cast; rfl
    have hUb : bl (Dn * 2 ^ k) ≤ 9000 := by rw [bl_mul (by omega)]; omega
    have ed := fdiv_nat a (Dn * 2 ^ k)
    have em := fmod_nat a (Dn * 2 ^ k)
    have hny := noPylong (a := (a : Int)) (b := ((Dn * 2 ^ k : Nat) : Int)) (by rw [Int.natAbs_natCast]; omega)
    generalize Dn * 2 ^ k = U at *
    clear main
    have clos : ∀ v : Int, v = (if N < 0 then -(((a / U + if away = true ∧ a % U > 0 then 1 else 0 : Nat)) : Int) else ((a / U + if away = true ∧ a % U > 0 then 1 else 0 : Nat) : Int)) → Fl.rt (fp v (k : Int)) = Fl.rt (Z up p N Dn 0) := fun v h => by rw [h, hm]
    clear hm
    cases away <;> simp only [Bool.false_eq_true, false_and, true_and, if_false] at clos
    all_goals repeat' walk_at "bw1"
    all_goals (rw [Int.toNat_natCast]; refine b_mul m1 ?_; rw [ev])
    all_goals repeat' walk_at "bw1"
    all_goals (refine b_div (by omega) hny ?_; rw [ed])
    all_goals repeat' walk_at "bw1"
    all_goals try (refine b_mod (by omega) ?_; rw [em])
    all_goals repeat' walk_at "bw1"
    all_goals refine ⟨_, hT _, clos _ ?_⟩
    all_goals ((repeat' split) <;> omega)

theorem c_beqY {a : Bool} {P N : Prop} (h1 : P) : dCmp .Eq (.bool a) (.bool a) P N := ⟨fun _ => h1, fun h => (h rfl).elim⟩
theorem c_beqN {a b : Bool} {P N : Prop} (h : a ≠ b) (h1 : N) : dCmp .Eq (.bool a) (.bool b) P N := ⟨fun e => (h e).elim, fun _ => h1⟩
noncomputable def ZL (up : Bool) (p : Nat) (N : Int) (Dn : Nat) : D := if p = 0 then fp N (1 - bl Dn) else Z up p N Dn 0
theorem bl_pow2 {a b : Nat} (h : a < 2 ^ b) : bl a ≤ b := bl_le h
abbrev c_end1 : PS := .asg 7 (.bin .Sub (.bin .Sub (.bitlen (.var 5)) (.bitlen (.var 4))) (.var 1))
 (.ifs (.ite (.cmp .GtE (.bin .Add (.var 7) (.var 1)) (.cst (.int 0))) (.cmp .GtE (.var 5) (.bin .Mult (.var 4) (.bin .Pow (.cst (.int 2)) (.bin .Add (.var 7) (.var 1))))) (.cmp .GtE (.bin .Mult (.var 5) (.bin .Pow (.cst (.int 2)) (.neg (.bin .Add (.var 7) (.var 1))))) (.var 4)))
 (.asg 7 (.bin .Add (.var 7) (.cst (.int 1)))
 .done)
 .done
 c_end2)
theorem end1 (P : Prog c) {n p a Dn : Nat} {N : Int} {up away : Bool} {ρ : Rho} {x0 x2 x7 x8 x9 x10 x11 x12 : Option D} (hN : N.natAbs = a) (ha : bl a ≤ 500) (hD : 0 < Dn) (hDb : bl Dn ≤ 500) (hp : 1 ≤ p) (hp2 : p ≤ 300)
    (hρ : ρ = [x0, some (.int p), x2, some (.int N), some (.int Dn), some (.int a), some (.bool away), x7, x8, x9, x10, x11, x12]) (haw : N ≠ 0 → away = (up == decide (0 < N))) : qS c (n + 1) c_end1 ρ (fun fl => fl = .rt (Z up p N Dn 0)) := by
  subst hρ
  have i1 := ibl a
  have i2 := ibl Dn
  have b1 := bl_lt a
  have b2 : N ≠ 0 → 2 ^ (bl a - 1) ≤ a := fun h => bl_ge (by omega)
  have b2' : N ≠ 0 → 1 ≤ bl a := fun h => bl_pos (by omega)
  have b3 := bl_lt Dn
  have b4 := bl_ge (n := Dn) (by omega)
  have b5 := bl_pos (n := Dn) (by omega)
  obtain ⟨M, hM⟩ : ∃ M : Nat, M = 1000 := ⟨_, rfl⟩
  have up1 : ∀ t : Int, t = (bl a : Int) - bl Dn - p + 1 → Dn * P2 ((bl a : Int) - bl Dn) ≤ a * P2 0 → (N ≠ 0 → 2 ^ (p - 1) * (Dn * P2 t) ≤ a * P2 0) ∧ (N ≠ 0 → a * P2 0 < 2 ^ p * (Dn * P2 t)) := by
    intro t ht hC
    have hg : P2 ((bl a : Int) - bl Dn) = 2 ^ (p - 1) * P2 t := by rw [← P2_add (by omega), show t + ((p - 1 : Nat) : Int) = (bl a : Int) - bl Dn by omega]
    refine ⟨fun _ => ?_, fun h => ?_⟩
    · rw [hg] at hC
      rw [show 2 ^ (p - 1) * (Dn * P2 t) = Dn * (2 ^ (p - 1) * P2 t) by ac_rfl]; exact hC
    · have e0 : P2 0 = 2 ^ M * P2 (-(M : Int)) := by rw [← P2_add (by omega), show -(M : Int) + M = 0 by omega]
      have e1 : 2 ^ p * P2 t = 2 ^ (bl a + M + 1 - bl Dn) * P2 (-(M : Int)) := by
        rw [← P2_add (by omega), ← P2_add (by omega), show t + (p : Int) = -(M : Int) + ((bl a + M + 1 - bl Dn : Nat) : Int) by omega]
      have e2 : 2 ^ (bl a + M + 1 - bl Dn) * 2 ^ (bl Dn - 1) = 2 ^ (bl a) * 2 ^ M := by rw [← Nat.pow_add, ← Nat.pow_add, show bl a + M + 1 - bl Dn + (bl Dn - 1) = bl a + M by omega]
      calc a * P2 0 < 2 ^ (bl a) * P2 0 := Nat.mul_lt_mul_of_pos_right b1 (P2_pos 0)
        _ = 2 ^ (bl a) * 2 ^ M * P2 (-(M : Int)) := by rw [e0, Nat.mul_assoc]
        _ = 2 ^ (bl a + M + 1 - bl Dn) * 2 ^ (bl Dn - 1) * P2 (-(M : Int)) := by rw [e2]
        _ = 2 ^ (bl Dn - 1) * (2 ^ (bl a + M + 1 - bl Dn) * P2 (-(M : Int))) := by ac_rfl
        _ ≤ Dn * (2 ^ (bl a + M + 1 - bl Dn) * P2 (-(M : Int))) := Nat.mul_le_mul_right _ b4
        _ = Dn * (2 ^ p * P2 t) := by rw [e1]
        _ = 2 ^ p * (Dn * P2 t) := by ac_rfl
  have up2 : ∀ t : Int, t = (bl a : Int) - bl Dn - p → ¬ Dn * P2 ((bl a : Int) - bl Dn) ≤ a * P2 0 → (N ≠ 0 → 2 ^ (p - 1) * (Dn * P2 t) ≤ a * P2 0) ∧ (N ≠ 0 → a * P2 0 < 2 ^ p * (Dn * P2 t)) := by
    intro t ht hC
    have hg : P2 ((bl a : Int) - bl Dn) = 2 ^ p * P2 t := by rw [← P2_add (by omega), show t + (p : Int) = (bl a : Int) - bl Dn by omega]
    refine ⟨fun h => ?_, fun _ => ?_⟩
    · have hb2 := b2 h
      have hb2' := b2' h
      have e0 : P2 0 = 2 ^ M * P2 (-(M : Int)) := by rw [← P2_add (by omega), show -(M : Int) + M = 0 by omega]
      have e1 : 2 ^ (p - 1) * P2 t = 2 ^ (bl a + M - 1 - bl Dn) * P2 (-(M : Int)) := by
        rw [← P2_add (by omega), ← P2_add (by omega), show t + ((p - 1 : Nat) : Int) = -(M : Int) + ((bl a + M - 1 - bl Dn : Nat) : Int) by omega]
      have e2 : 2 ^ (bl a + M - 1 - bl Dn) * 2 ^ (bl Dn) = 2 ^ (bl a - 1) * 2 ^ M := by rw [← Nat.pow_add, ← Nat.pow_add, show bl a + M - 1 - bl Dn + bl Dn = bl a - 1 + M by omega]
      calc 2 ^ (p - 1) * (Dn * P2 t) = Dn * (2 ^ (p - 1) * P2 t) := by ac_rfl
        _ = Dn * (2 ^ (bl a + M - 1 - bl Dn) * P2 (-(M : Int))) := by rw [e1]
        _ ≤ 2 ^ (bl Dn) * (2 ^ (bl a + M - 1 - bl Dn) * P2 (-(M : Int))) := Nat.mul_le_mul_right _ (Nat.le_of_lt b3)
        _ = 2 ^ (bl a + M - 1 - bl Dn) * 2 ^ (bl Dn) * P2 (-(M : Int)) := by ac_rfl
        _ = 2 ^ (bl a - 1) * 2 ^ M * P2 (-(M : Int)) := by rw [e2]
        _ = 2 ^ (bl a - 1) * P2 0 := by rw [e0, Nat.mul_assoc]
        _ ≤ a * P2 0 := Nat.mul_le_mul_right _ hb2
    · rw [hg] at hC
      rw [show 2 ^ p * (Dn * P2 t) = Dn * (2 ^ p * P2 t) by ac_rfl]
      exact Nat.lt_of_not_le hC
  rcases Int.lt_or_le ((bl a : Int) - bl Dn) 0 with hneg | hpos
  · obtain ⟨k, hk⟩ : ∃ k : Nat, (bl a : Int) - bl Dn = -(k : Int) := ⟨(-((bl a : Int) - bl Dn)).toNat, by omega⟩
    have hC : (Dn * P2 ((bl a : Int) - bl Dn) ≤ a * P2 0) ↔ (Dn : Int) ≤ (a : Int) * 2 ^ k := by
      have hP : P2 0 = 2 ^ k * P2 (-(k : Int)) := by rw [← P2_add (by omega), show -(k : Int) + k = 0 by omega]
      rw [hk, hP, ← Nat.mul_assoc]
      have : (Dn : Int) ≤ (a : Int) * 2 ^ k ↔ Dn ≤ a * 2 ^ k := by rw [pow_cast, ← Int.natCast_mul]; omega
      rw [this]
      exact ⟨fun h => Nat.le_of_mul_le_mul_right h (P2_pos _), fun h => Nat.mul_le_mul_right _ h⟩
    have m1 : IntMulOk a (2 ^ k) := mulPow (by rw [Int.natAbs_natCast]; omega) (by omega)
    have m2 : PowOk 2 (k : Int) := powOk2 (by omega) (by omega)
    rw [hC] at up1 up2
    clear b1 b2 b2' b3 b4 b5
    repeat' walk_at "bw1"
    rename_i j hj h0
    have hj2 : -(j + (p : Int)) = (k : Int) := by omega
    rw [hj2]
    refine b_pow (by omega) m2 ?_
    rw [Int.toNat_natCast]
    refine b_mul m1 ?_
    generalize (a : Int) * 2 ^ k = X at *
    have hjj : j = (bl a : Int) - bl Dn - p := by omega
    repeat' first
      | ((with_reducible apply end2 P hN ha hD hDb hp haw); (· exact rfl); (· omega); (· omega); (· first | exact (up1 _ (by omega) (by assumption)).1 | exact (up2 _ (by omega) (by assumption)).1); (· first | exact (up1 _ (by omega) (by assumption)).2 | exact (up2 _ (by omega) (by assumption)).2))
      | walk_at "bw1"
  · obtain ⟨k, hk⟩ : ∃ k : Nat, (bl a : Int) - bl Dn = (k : Int) := ⟨((bl a : Int) - bl Dn).toNat, by omega⟩
    have hC : (Dn * P2 ((bl a : Int) - bl Dn) ≤ a * P2 0) ↔ (Dn : Int) * 2 ^ k ≤ (a : Int) := by
      have hP : P2 (k : Int) = 2 ^ k * P2 0 := by rw [← P2_add (by omega), show (0 : Int) + k = k by omega]
      rw [hk, hP, ← Nat.mul_assoc]
      have : (Dn : Int) * 2 ^ k ≤ (a : Int) ↔ Dn * 2 ^ k ≤ a := by rw [pow_cast, ← Int.natCast_mul]; omega
      rw [this]
      exact ⟨fun h => Nat.le_of_mul_le_mul_right h (P2_pos _), fun h => Nat.mul_le_mul_right _ h⟩
    have m1 : IntMulOk Dn (2 ^ k) := mulPow (by rw [Int.natAbs_natCast]; omega) (by omega)
    have m2 : PowOk 2 (k : Int) := powOk2 (by omega) (by omega)
    rw [hC] at up1 up2
    clear b1 b2 b2' b3 b4 b5
    repeat' walk_at "bw1"
    rename_i j hj h0
    have hj2 : (j + (p : Int)) = (k : Int) := by omega
    rw [hj2]
    refine b_pow (by omega) m2 ?_
    rw [Int.toNat_natCast]
    refine b_mul m1 ?_
    generalize (Dn : Int) * 2 ^ k = X at *
    have hjj : j = (bl a : Int) - bl Dn - p := by omega
    repeat' first
      | ((with_reducible apply end2 P hN ha hD hDb hp haw); (· exact rfl); (· omega); (· omega); (· first | exact (up1 _ (by omega) (by assumption)).1 | exact (up2 _ (by omega) (by assumption)).1); (· first | exact (up1 _ (by omega) (by assumption)).2 | exact (up2 _ (by omega) (by assumption)).2))
      | walk_at "bw1"

set_option maxHeartbeats 1000000 in
theorem T_end (P : Prog c) {n p Dn : Nat} {N : Int} {up : Bool} (ha : bl N.natAbs ≤ 500) (hD : 0 < Dn) (hDb : bl Dn ≤ 500) (hp2 : p ≤ 300) :
    Tell c (n + 2) "_law_end" [.tup [.int N, .int Dn], .int p, .bool up] (ZL up p N Dn) := by
  have f1 := P.is_law_told
  have i2 := ibl Dn
  have hT := T_told P (n := n) (w := N) (e := 1 - bl Dn)
  refine P.t_law_end3 (n + 1) _ _ _ _ ?_
  unfold c_law_end ZL
  rcases Nat.eq_zero_or_pos p with rfl | hp
  · rw [if_pos rfl]
    repeat' walk_at "bw1"
    rw [i2]
    exact ⟨_, hT, rfl⟩
  · rw [if_neg (by omega)]
    have habs : (if N < 0 then -N else N) = (N.natAbs : Int) := by split <;> omega
    have haw1 : 0 < N → ∀ b : Bool, b = (up == true) → (N ≠ 0 → b = (up == decide (0 < N))) := fun h b hb _ => by rw [decide_eq_true h]; exact hb
    have haw2 : ¬ 0 < N → ∀ b : Bool, b = (up == false) → (N ≠ 0 → b = (up == decide (0 < N))) := fun h b hb _ => by rw [decide_eq_false h]; exact hb
    cases up
    all_goals repeat' walk_at "bw1"
    all_goals first | refine c_beqY ?_ | refine c_beqN (by decide) ?_
    all_goals simp only [habs]
    all_goals repeat' first
      | ((with_reducible apply end1 P rfl ha hD hDb hp hp2); (· exact rfl); (· first | exact haw1 (by assumption) _ rfl | exact haw2 (by assumption) _ rfl))
      | walk_at "bw1"
end
end
section
open PySem PySem.W PySem.Calls PyProof.Rows PySem.SeqAt
abbrev Pr := Int × Nat
abbrev pr (x : Pr) : D := .tup [.int x.1, .int x.2]
structure Bd (x : Pr) : Prop where
  n : bl x.1.natAbs ≤ 450
  d : bl x.2 ≤ 450
  p : 0 < x.2
def plt (x y : Pr) : Bool := decide (x.1 * y.2 < y.1 * x.2)
def pmin (a : Pr) (xs : List Pr) : Pr := xs.foldl (fun lo v => if plt v lo = true then v else lo) a
def pmax (a : Pr) (xs : List Pr) : Pr := xs.foldl (fun hi v => if plt hi v = true then v else hi) a
section
variable {c : Cx}
theorem Bd.mul {x y : Pr} (hx : Bd x) (hy : Bd y) : IntMulOk x.1 y.2 := mulOk (by have := hx.n; have := hy.d; rw [Int.natAbs_natCast]; omega)
theorem T_less (P : Prog c) {n : Nat} {x y : Pr} (hx : Bd x) (hy : Bd y) : Tell c (n + 1) "_law_is_less" [pr x, pr y] (.bool (plt x y)) := by
  have m1 := hx.mul hy
  have m2 := hy.mul hx
  refine P.t_law_is_less2 n _ _ _ ?_
  unfold c_law_is_less plt
  repeat' walk_at "bw1"
  · rw [decide_eq_true (by assumption)]
  · rw [decide_eq_false (by assumption)]
abbrev c_sortbody : PS := .unpR [1, 2] (.tup (.cons (.ite (.call "_law_is_less" (.cons (.var 3) (.cons (.var 1) .nil))) (.var 3) (.var 1)) (.cons (.ite (.call "_law_is_less" (.cons (.var 2) (.cons (.var 3) .nil))) (.var 3) (.var 2)) .nil)))
 .done
theorem sortLoop (P : Prog c) {n : Nat} {L : Option D} {K : Fl → Prop} : ∀ (xs : List Pr) (a b : Pr) (x : Option D), Bd a → Bd b → (∀ v ∈ xs, Bd v) →
    (∀ x', K (.nx [L, some (pr (pmin a xs)), some (pr (pmax b xs)), x', none])) →
    pFor (xs.map pr) (fun d ρ K => qS c (n + 1) c_sortbody (put ρ 3 d) K) [L, some (pr a), some (pr b), x, none] K
  | [], a, b, x, _, _, _, h => r_forN (h x)
  | v :: xs, a, b, x, ha, hb, hv, h => by
    have f1 := P.is_law_is_less
    have hv0 := hv v List.mem_cons_self
    have hvs := fun y hy => hv y (List.mem_cons_of_mem _ hy)
    have t1 := T_less P (n := n) hv0 ha
    have t2 := T_less P (n := n) hb hv0
    refine r_forC ?_
    have ih := sortLoop P (n := n) (L := L) (K := K) xs (if plt v a = true then v else a) (if plt b v = true then v else b) (some (pr v)) (by split <;> assumption) (by split <;> assumption) hvs h
    repeat' walk_at "bw1"
    refine ⟨_, t1, ?_⟩
    repeat' walk_at "bw1"
    all_goals refine ⟨_, t2, ?_⟩
    all_goals repeat' walk_at "bw1"
    all_goals refine r_forD ?_
    · rw [if_pos (by assumption), if_pos (by assumption)] at ih; exact ih
    · rename_i h1 h2
      rw [if_pos h1, if_neg (by rw [h2]; decide)] at ih; exact ih
    · rename_i h1 h2
      rw [if_neg (by rw [h1]; decide), if_pos h2] at ih; exact ih
    · rename_i h1 h2
      rw [if_neg (by rw [h1]; decide), if_neg (by rw [h2]; decide)] at ih; exact ih
theorem T_sorted (P : Prog c) {n : Nat} {x : Pr} {xs : List Pr} (hx : Bd x) (hxs : ∀ v ∈ xs, Bd v) (hl : xs.length ≤ 100) :
    Tell c (n + 2) "_law_sorted" [.list ((x :: xs).map pr)] (.tup [pr (pmin x xs), pr (pmax x xs)]) := by
  refine P.t_law_sorted1 (n + 1) _ _ ?_
  unfold c_law_sorted
  repeat' walk_at "bw1"
  refine r_fors (r_drop ?_)
  repeat' walk_at "bw1"
  refine r_dList ⟨by simp; omega, r_dList ⟨by simp; omega, ?_⟩⟩
  refine sortLoop P xs x x none hx hx hxs fun x' => ?_
  refine r_knx ?_
  repeat' walk_at "bw1"
  rfl
theorem pmin_bd {a : Pr} : ∀ {xs : List Pr}, Bd a → (∀ v ∈ xs, Bd v) → Bd (pmin a xs)
  | [], h, _ => h
  | v :: xs, h, hv => by
    show Bd (pmin (if plt v a = true then v else a) xs)
    refine pmin_bd ?_ fun y hy => hv y (List.mem_cons_of_mem _ hy)
    split
    · exact hv v List.mem_cons_self
    · exact h
theorem pmax_bd {a : Pr} : ∀ {xs : List Pr}, Bd a → (∀ v ∈ xs, Bd v) → Bd (pmax a xs)
  | [], h, _ => h
  | v :: xs, h, hv => by
    show Bd (pmax (if plt a v = true then v else a) xs)
    refine pmax_bd ?_ fun y hy => hv y (List.mem_cons_of_mem _ hy)
    split
    · exact hv v List.mem_cons_self
    · exact h
theorem T_outwards (P : Prog c) {n p : Nat} {x : Pr} {xs : List Pr} (hx : Bd x) (hxs : ∀ v ∈ xs, Bd v) (hl : xs.length ≤ 100) (hp : p ≤ 300) :
    Tell c (n + 3) "_law_outwards" [.list ((x :: xs).map pr), .int p] (.tup [ZL false p (pmin x xs).1 (pmin x xs).2, ZL true p (pmax x xs).1 (pmax x xs).2]) := by
  have f1 := P.is_law_sorted
  have f2 := P.is_law_end
  have h1 := T_sorted P (n := n) hx hxs hl
  have b1 := pmin_bd hx hxs
  have b2 := pmax_bd hx hxs
  have h2 := T_end P (n := n) (p := p) (N := (pmin x xs).1) (Dn := (pmin x xs).2) (up := false) (Nat.le_trans b1.n (by decide)) b1.p (Nat.le_trans b1.d (by decide)) hp
  have h3 := T_end P (n := n) (p := p) (N := (pmax x xs).1) (Dn := (pmax x xs).2) (up := true) (Nat.le_trans b2.n (by decide)) b2.p (Nat.le_trans b2.d (by decide)) hp
  refine P.t_law_outwards2 (n + 2) _ _ _ ?_
  unfold c_law_outwards
  repeat' walk_at "bw1"
  refine ⟨_, h1, ?_⟩
  repeat' walk_at "bw1"
  refine ⟨_, h2, ?_⟩
  repeat' walk_at "bw1"
  refine ⟨_, h3, ?_⟩
  repeat' walk_at "bw1"
  rfl
end
end
section
open PySem PySem.W PySem.Calls PyProof.Rows PySem.SeqAt
theorem cross_trans {a b d : Int} {x y z : Nat} (hy : 0 < y) (h1 : a * y ≤ b * x) (h2 : b * z ≤ d * y) : a * z ≤ d * x := by
  have e1 := Int.mul_le_mul_of_nonneg_right h1 (Int.natCast_nonneg z)
  have e2 := Int.mul_le_mul_of_nonneg_right h2 (Int.natCast_nonneg x)
  have hy' : (0 : Int) < y := by omega
  refine Int.le_of_mul_le_mul_right (a := (y : Int)) ?_ hy'
  calc a * z * y = a * y * z := by ac_rfl
    _ ≤ b * x * z := e1
    _ = b * z * x := by ac_rfl
    _ ≤ d * y * x := e2
    _ = d * x * y := by ac_rfl
theorem pmin_spec {a : Pr} : ∀ {xs : List Pr}, 0 < a.2 → (∀ v ∈ xs, 0 < v.2) → pmin a xs ∈ a :: xs ∧ ∀ v ∈ a :: xs, (pmin a xs).1 * v.2 ≤ v.1 * (pmin a xs).2
  | [], h, _ => ⟨List.mem_cons_self, fun v hv => by simp only [List.mem_cons, List.not_mem_nil, or_false] at hv; subst hv; exact Int.le_refl _⟩
  | v :: xs, h, hv => by
    have hv0 := hv v List.mem_cons_self
    have hvs := fun y hy => hv y (List.mem_cons_of_mem _ hy)
    show pmin (if plt v a = true then v else a) xs ∈ (a :: v :: xs) ∧ ∀ u ∈ (a :: v :: xs), (pmin (if plt v a = true then v else a) xs).1 * u.2 ≤ u.1 * (pmin (if plt v a = true then v else a) xs).2
    by_cases h1 : plt v a = true
    · rw [if_pos h1]
      obtain ⟨m, le⟩ := pmin_spec (a := v) (xs := xs) hv0 hvs
      refine ⟨List.mem_cons_of_mem _ m, fun u hu => ?_⟩
      cases hu with
      | head =>
        have := of_decide_eq_true h1
        exact cross_trans hv0 (le v List.mem_cons_self) (Int.le_of_lt this)
      | tail _ hu => exact le u hu
    · rw [if_neg h1]
      obtain ⟨m, le⟩ := pmin_spec (a := a) (xs := xs) h hvs
      refine ⟨by rcases List.mem_cons.mp m with q | q; rw [q]; exact List.mem_cons_self; exact List.mem_cons_of_mem _ (List.mem_cons_of_mem _ q), fun u hu => ?_⟩
      cases hu with
      | head => exact le a List.mem_cons_self
      | tail _ hu =>
        cases hu with
        | head =>
          have : ¬ (v.1 * a.2 < a.1 * v.2) := fun q => h1 (decide_eq_true q)
          exact cross_trans h (le a List.mem_cons_self) (by omega)
        | tail _ hu => exact le u (List.mem_cons_of_mem _ hu)
theorem pmax_spec {a : Pr} : ∀ {xs : List Pr}, 0 < a.2 → (∀ v ∈ xs, 0 < v.2) → pmax a xs ∈ a :: xs ∧ ∀ v ∈ a :: xs, v.1 * (pmax a xs).2 ≤ (pmax a xs).1 * v.2
  | [], h, _ => ⟨List.mem_cons_self, fun v hv => by simp only [List.mem_cons, List.not_mem_nil, or_false] at hv; subst hv; exact Int.le_refl _⟩
  | v :: xs, h, hv => by
    have hv0 := hv v List.mem_cons_self
    have hvs := fun y hy => hv y (List.mem_cons_of_mem _ hy)
    show pmax (if plt a v = true then v else a) xs ∈ (a :: v :: xs) ∧ ∀ u ∈ (a :: v :: xs), u.1 * (pmax (if plt a v = true then v else a) xs).2 ≤ (pmax (if plt a v = true then v else a) xs).1 * u.2
    by_cases h1 : plt a v = true
    · rw [if_pos h1]
      obtain ⟨m, le⟩ := pmax_spec (a := v) (xs := xs) hv0 hvs
      refine ⟨List.mem_cons_of_mem _ m, fun u hu => ?_⟩
      cases hu with
      | head =>
        have := of_decide_eq_true h1
        exact cross_trans hv0 (Int.le_of_lt this) (le v List.mem_cons_self)
      | tail _ hu => exact le u hu
    · rw [if_neg h1]
      obtain ⟨m, le⟩ := pmax_spec (a := a) (xs := xs) h hvs
      refine ⟨by rcases List.mem_cons.mp m with q | q; rw [q]; exact List.mem_cons_self; exact List.mem_cons_of_mem _ (List.mem_cons_of_mem _ q), fun u hu => ?_⟩
      cases hu with
      | head => exact le a List.mem_cons_self
      | tail _ hu =>
        cases hu with
        | head =>
          have : ¬ (a.1 * v.2 < v.1 * a.2) := fun q => h1 (decide_eq_true q)
          exact cross_trans h (by omega) (le a List.mem_cons_self)
        | tail _ hu => exact le u (List.mem_cons_of_mem _ hu)
def P2s (x : Pr) : Prop := ∃ k, x.2 = 2 ^ k
theorem ZL_ratio {up : Bool} {p : Nat} {x y : Pr} (hx : 0 < x.2) (hy : 0 < y.2) (hp : p = 0 → P2s x ∧ P2s y) (h : x.1 * y.2 = y.1 * x.2) : ZL up p x.1 x.2 = ZL up p y.1 y.2 := by
  unfold ZL
  by_cases h0 : p = 0
  · rw [if_pos h0, if_pos h0]
    obtain ⟨⟨i, hi⟩, ⟨j, hj⟩⟩ := hp h0
    rw [hi, hj] at h ⊢
    rw [bl_pow, bl_pow]
    have h' : x.1 * 2 ^ j = y.1 * 2 ^ i := by rw [pow_cast, pow_cast]; exact h
    have e1 := fp_shift x.1 (-(i : Int) - j) j
    have e2 := fp_shift y.1 (-(i : Int) - j) i
    rw [h'] at e1
    rw [show (1 : Int) - ((i + 1 : Nat) : Int) = -(i : Int) - j + j by push_cast; omega, show (1 : Int) - ((j + 1 : Nat) : Int) = -(i : Int) - j + i by push_cast; omega, ← e1, e2]
  · rw [if_neg h0, if_neg h0]
    refine Z_same (by omega) hx hy ?_
    rw [Int.mul_right_comm, h, Int.mul_right_comm]
theorem ZL_two {up : Bool} {p s : Nat} {w : Int} (hs : s ≤ 400) : ZL up p w (2 ^ s) = Z up p w 1 (-(s : Int)) := by
  unfold ZL
  by_cases h0 : p = 0
  · subst h0; rw [if_pos rfl, Z_exact, bl_pow]; congr 1; push_cast; omega
  · rw [if_neg h0]
    refine Z_same (by omega) (pow_pos' s) (by decide) ?_
    have hP : P2 0 = 2 ^ s * P2 (-(s : Int)) := by rw [← P2_add (by omega), show -(s : Int) + s = 0 by omega]
    rw [hP]; push_cast; ac_rfl
theorem lo_eq {p s : Nat} {x : Pr} {xs : List Pr} {w : Int} (hs : s ≤ 400) (hx : 0 < x.2) (hxs : ∀ v ∈ xs, 0 < v.2) (h2 : p = 0 → ∀ v ∈ x :: xs, P2s v)
    (hm : ∃ v ∈ x :: xs, v.1 * (2 ^ s : Nat) = w * v.2) (hle : ∀ v ∈ x :: xs, w * v.2 ≤ v.1 * (2 ^ s : Nat)) : ZL false p (pmin x xs).1 (pmin x xs).2 = Z false p w 1 (-(s : Int)) := by
  obtain ⟨m, le⟩ := pmin_spec hx hxs
  have hpos : 0 < (pmin x xs).2 := by rcases List.mem_cons.mp m with q | q; rw [q]; exact hx; exact hxs _ q
  rw [← ZL_two hs]
  refine ZL_ratio (x := pmin x xs) (y := (w, 2 ^ s)) hpos (pow_pos' s) (fun h0 => ⟨h2 h0 _ m, s, rfl⟩) ?_
  obtain ⟨v, hv, e⟩ := hm
  have hv0 : 0 < v.2 := by rcases List.mem_cons.mp hv with q | q; rw [q]; exact hx; exact hxs _ q
  have h1 := hle _ m
  have h3 := cross_trans (x := (pmin x xs).2) (y := v.2) (z := 2 ^ s) hv0 (le v hv) (Int.le_of_eq e)
  exact Int.le_antisymm h3 h1
theorem hi_eq {p s : Nat} {x : Pr} {xs : List Pr} {w : Int} (hs : s ≤ 400) (hx : 0 < x.2) (hxs : ∀ v ∈ xs, 0 < v.2) (h2 : p = 0 → ∀ v ∈ x :: xs, P2s v)
    (hm : ∃ v ∈ x :: xs, v.1 * (2 ^ s : Nat) = w * v.2) (hle : ∀ v ∈ x :: xs, v.1 * (2 ^ s : Nat) ≤ w * v.2) : ZL true p (pmax x xs).1 (pmax x xs).2 = Z true p w 1 (-(s : Int)) := by
  obtain ⟨m, le⟩ := pmax_spec hx hxs
  have hpos : 0 < (pmax x xs).2 := by rcases List.mem_cons.mp m with q | q; rw [q]; exact hx; exact hxs _ q
  rw [← ZL_two hs]
  refine ZL_ratio (x := pmax x xs) (y := (w, 2 ^ s)) hpos (pow_pos' s) (fun h0 => ⟨h2 h0 _ m, s, rfl⟩) ?_
  obtain ⟨v, hv, e⟩ := hm
  have hv0 : 0 < v.2 := by rcases List.mem_cons.mp hv with q | q; rw [q]; exact hx; exact hxs _ q
  have h1 := hle _ m
  have h3 := cross_trans (x := 2 ^ s) (y := v.2) (z := (pmax x xs).2) hv0 (Int.le_of_eq e.symm) (le v hv)
  exact Int.le_antisymm h1 h3
end
section
open PySem PySem.W PySem.Calls PyProof.Rows PySem.SeqAt
section
variable (FN : Str → Prop) (T : Str → List D → D → Prop) (G : Str → D → Prop) (GD : Str → Str → D → Prop)
def cF (caps : List (Option Nat)) (t : List Nat) (pr : Bool) (elt : PE) (ρ : Rho) : D → (List D → Prop) → Prop := fun d K => bindT t pr d (capR caps ρ) fun ρ' => pE FN T G GD elt ρ' fun y => y.flat = true ∧ K [y]
def cF3 (elt : PE) (ρ₁ : Rho) (t₂ : Nat) : D → (List D → Prop) → Prop := fun d₂ K₂ => pE FN T G GD elt (put ρ₁ t₂ d₂) fun y => y.flat = true ∧ K₂ [y]
def cF2 (caps : List (Option Nat)) (t₁ t₂ : Nat) (it₂ elt : PE) (ρ : Rho) : D → (List D → Prop) → Prop := fun d K => pE FN T G GD it₂ (put (capR caps ρ) t₁ d) fun x₂ => (match dItems x₂ with
          | some l₂ => D.flats l₂ = true ∧ l₂.length ≤ 100 ∧ pBind l₂ (cF3 FN T G GD elt (put (capR caps ρ) t₁ d) t₂) K
          | none => False)
end
def dSeq (f : List D → Prop) (x : D) : Prop := match dItems x with | some l => f l | none => False
section
variable {FN : Str → Prop} {T : Str → List D → D → Prop} {G : Str → D → Prop} {GD : Str → Str → D → Prop} {ρ ρ₁ : Rho} {Q : D → Prop} {Q' : List D → Prop}
theorem r_comp {caps : List (Option Nat)} {t : List Nat} {pr : Bool} {it elt : PE} (h : pE FN T G GD it ρ (dSeq fun l => D.flats l = true ∧ l.length ≤ 1000 ∧ pBind l (cF FN T G GD caps t pr elt ρ) fun ys => Q (.list ys))) : pE FN T G GD (.comp caps t pr it elt) ρ Q := h
theorem r_comp2 {caps : List (Option Nat)} {t₁ t₂ : Nat} {it₁ it₂ elt : PE} (h : pE FN T G GD it₁ ρ (dSeq fun l => D.flats l = true ∧ l.length ≤ 100 ∧ pBind l (cF2 FN T G GD caps t₁ t₂ it₂ elt ρ) fun ys => Q (.list ys))) : pE FN T G GD (.comp2 caps t₁ t₂ it₁ it₂ elt) ρ Q := h
theorem r_seqT {f : List D → Prop} {l : List D} (h : f l) : dSeq f (.tup l) := h
theorem r_seqL {f : List D → Prop} {l : List D} (h : f l) : dSeq f (.list l) := h
theorem r_b0 {f : D → (List D → Prop) → Prop} (h : Q' []) : pBind [] f Q' := h
theorem r_b1 {caps : List (Option Nat)} {i : Nat} {elt : PE} {d : D} {r : List D} (h : pE FN T G GD elt (put (capR caps ρ) i d) fun y => y.flat = true ∧ pBind r (cF FN T G GD caps [i] false elt ρ) fun zs => Q' ([y] ++ zs)) : pBind (d :: r) (cF FN T G GD caps [i] false elt ρ) Q' := h
theorem r_b2 {caps : List (Option Nat)} {i j : Nat} {elt : PE} {x y : D} {r : List D} (h : pE FN T G GD elt (put (put (capR caps ρ) i x) j y) fun y => y.flat = true ∧ pBind r (cF FN T G GD caps [i, j] true elt ρ) fun zs => Q' ([y] ++ zs)) : pBind (.tup [x, y] :: r) (cF FN T G GD caps [i, j] true elt ρ) Q' := h
theorem r_b2o {caps : List (Option Nat)} {t₁ t₂ : Nat} {it₂ elt : PE} {d : D} {r : List D} (h : pE FN T G GD it₂ (put (capR caps ρ) t₁ d) (dSeq fun l₂ => D.flats l₂ = true ∧ l₂.length ≤ 100 ∧ pBind l₂ (cF3 FN T G GD elt (put (capR caps ρ) t₁ d) t₂) fun ys => pBind r (cF2 FN T G GD caps t₁ t₂ it₂ elt ρ) fun zs => Q' (ys ++ zs))) :
    pBind (d :: r) (cF2 FN T G GD caps t₁ t₂ it₂ elt ρ) Q' := h
theorem r_b3 {elt : PE} {t₂ : Nat} {d : D} {r : List D} (h : pE FN T G GD elt (put ρ₁ t₂ d) fun y => y.flat = true ∧ pBind r (cF3 FN T G GD elt ρ₁ t₂) fun zs => Q' ([y] ++ zs)) : pBind (d :: r) (cF3 FN T G GD elt ρ₁ t₂) Q' := h
theorem r_tupOf {a : PE} (h : pE FN T G GD a ρ (dList fun l => l.length ≤ 1000 ∧ Q (.tup l))) : pE FN T G GD (.tupOf a) ρ Q := by
  have : (dList fun l => l.length ≤ 1000 ∧ Q (.tup l)) = (fun x => (match x with | .list l => l.length ≤ 1000 ∧ Q (.tup l) | _ => False)) := by funext d; cases d <;> rfl
  rw [this] at h; exact h
theorem r_take {a : PE} {n : Nat} (h : pE FN T G GD a ρ (dList fun l => l.length ≤ 1000 ∧ Q (.list (l.take n)))) : pE FN T G GD (.take a n) ρ Q := by
  have : (dList fun l => l.length ≤ 1000 ∧ Q (.list (l.take n))) = (fun x => (match x with | .list l => l.length ≤ 1000 ∧ Q (.list (l.take n)) | _ => False)) := by funext d; cases d <;> rfl
  rw [this] at h; exact h
end
section
variable {c : Cx}
structure Bs (x : Pr) : Prop where
  n : bl x.1.natAbs ≤ 150
  d : bl x.2 ≤ 100
  p : 0 < x.2
theorem Bs.bd {x : Pr} (h : Bs x) : Bd x := ⟨Nat.le_trans h.n (by decide), Nat.le_trans h.d (by decide), h.p⟩
theorem mulB {a b : Int} (ha : bl a.natAbs ≤ 1000) (hb : bl b.natAbs ≤ 1000) : IntMulOk a b := mulOk (by omega)
theorem T_times (P : Prog c) {n : Nat} {x y : Pr} (hx : Bs x) (hy : Bs y) : Tell c (n + 1) "_law_times" [pr x, pr y] (pr (x.1 * y.1, x.2 * y.2)) := by
  have m1 : IntMulOk x.1 y.1 := mulB (by have := hx.n; omega) (by have := hy.n; omega)
  have m2 : IntMulOk x.2 y.2 := mulB (by have := hx.d; rw [Int.natAbs_natCast]; omega) (by have := hy.d; rw [Int.natAbs_natCast]; omega)
  refine P.t_law_times2 n _ _ _ ?_
  unfold c_law_times
  repeat' walk_at "bw1"
  rfl
theorem bl_mul_le (a b : Nat) : bl (a * b) ≤ bl a + bl b := by
  refine bl_le ?_
  rw [Nat.pow_add]
  have h1 := bl_lt a
  have h2 := bl_lt b
  exact Nat.mul_lt_mul'' h1 h2
theorem bl_imul (a b : Int) : bl (a * b).natAbs ≤ bl a.natAbs + bl b.natAbs := by rw [Int.natAbs_mul]; exact bl_mul_le _ _
theorem T_plus (P : Prog c) {n : Nat} {x y : Pr} {sd : Int} (hx : Bs x) (hy : Bs y) (hs : sd = 1 ∨ sd = -1) : Tell c (n + 1) "_law_plus" [pr x, pr y, .int sd] (pr (x.1 * y.2 + sd * y.1 * x.2, x.2 * y.2)) := by
  have hsb : bl sd.natAbs ≤ 1 := by rcases hs with rfl | rfl <;> decide
  have nx := hx.n; have dx := hx.d; have ny := hy.n; have dy := hy.d
  have b1 := bl_imul sd y.1
  have m1 : IntMulOk x.1 y.2 := mulB (by omega) (by rw [Int.natAbs_natCast]; omega)
  have m2 : IntMulOk sd y.1 := mulB (by omega) (by omega)
  have m3 : IntMulOk (sd * y.1) x.2 := mulB (by omega) (by rw [Int.natAbs_natCast]; omega)
  have m4 : IntMulOk x.2 y.2 := mulB (by rw [Int.natAbs_natCast]; omega) (by rw [Int.natAbs_natCast]; omega)
  refine P.t_law_plus3 n _ _ _ _ ?_
  unfold c_law_plus
  repeat' walk_at "bw1"
  rfl
theorem T_by (P : Prog c) {n : Nat} {x y : Pr} (hx : Bs x) (hy : Bs y) (h0 : y.1 ≠ 0) : Tell c (n + 1) "_law_by" [pr x, pr y] (pr (x.1 * y.2 * (if 0 < y.1 then 1 else -1), x.2 * y.1.natAbs)) := by
  have nx := hx.n; have dx := hx.d; have ny := hy.n; have dy := hy.d
  have b1 := bl_imul x.1 y.2
  have b2 := bl_imul x.2 y.1
  rw [Int.natAbs_natCast] at b1 b2
  have m1 : IntMulOk x.1 y.2 := mulB (by omega) (by rw [Int.natAbs_natCast]; omega)
  have m2 : IntMulOk x.2 y.1 := mulB (by rw [Int.natAbs_natCast]; omega) (by omega)
  have m3 : IntMulOk (x.1 * y.2) 1 := mulB (by omega) (by decide)
  have m4 : IntMulOk (x.1 * y.2) (-1) := mulB (by omega) (by decide)
  have m5 : IntMulOk (x.2 * y.1) 1 := mulB (by omega) (by decide)
  have m6 : IntMulOk (x.2 * y.1) (-1) := mulB (by omega) (by decide)
  refine P.t_law_by2 n _ _ _ ?_
  unfold c_law_by
  repeat' walk_at "bw1"
  all_goals subst_vars
  · refine b_mul m3 ?_
    repeat' walk_at "bw1"
    rw [if_pos (by assumption)]
    have : ((x.2 * y.1.natAbs : Nat) : Int) = (x.2 : Int) * y.1 * 1 := by rw [Int.mul_one]; push_cast; congr 1; omega
    rw [← this]
  · refine b_mul m4 ?_
    repeat' walk_at "bw1"
    rw [if_neg (by assumption)]
    have : ((x.2 * y.1.natAbs : Nat) : Int) = (x.2 : Int) * y.1 * -1 := by
      rw [Int.mul_assoc]; push_cast; congr 1; omega
    rw [← this]
theorem T_power (P : Prog c) {n k : Nat} {x : Pr} (hx : Bs x) (hk : k ≤ 6) : Tell c (n + 1) "_law_power" [pr x, .int k] (pr (x.1 ^ k, x.2 ^ k)) := by
  have nx := hx.n; have dx := hx.d
  have m1 : PowOk x.1 k := PowOk.of (n := 150) (k := 6) (by rw [intBits_eq]; exact nx) (by omega) (by omega) (by decide)
  have m2 : PowOk x.2 k := PowOk.of (n := 100) (k := 6) (by rw [ibl]; exact dx) (by omega) (by omega) (by decide)
  refine P.t_law_power2 n _ _ _ ?_
  unfold c_law_power
  repeat' walk_at "bw1"
  rw [Int.toNat_natCast]
  show _ = Fl.rt (.tup [.int (x.1 ^ k), .int ((x.2 ^ k : Nat) : Int)])
  rw [Int.natCast_pow]

theorem flats_pr : ∀ (l : List Pr), D.flats (l.map pr) = true
  | [] => rfl
  | x :: r => by simp only [List.map_cons, D.flats, D.flat, flats_pr r, Bool.and_self]
/-- the four quotients -/
def byp (x y : Pr) : Pr := (x.1 * y.2 * (if 0 < y.1 then 1 else -1), x.2 * y.1.natAbs)
theorem byp_bd {x y : Pr} (hx : Bs x) (hy : Bs y) (h0 : y.1 ≠ 0) : Bd (byp x y) := by
  have nx := hx.n; have dx := hx.d; have ny := hy.n; have dy := hy.d; have px := hx.p
  have b1 := bl_imul x.1 y.2
  rw [Int.natAbs_natCast] at b1
  have b2 := bl_mul_le x.2 y.1.natAbs
  refine ⟨?_, ?_, Nat.mul_pos px (by omega)⟩
  · show bl (x.1 * y.2 * (if 0 < y.1 then 1 else -1)).natAbs ≤ 450
    split
    · rw [Int.mul_one]; omega
    · rw [Int.mul_neg, Int.mul_one, Int.natAbs_neg]; omega
  · show bl (x.2 * y.1.natAbs) ≤ 450
    omega
def seqOf : D → List Pr → Prop
  | .tup l, xs => l = xs.map pr
  | .list l, xs => l = xs.map pr
  | _, _ => False
theorem r_seqOf {d : D} {xs : List Pr} {f : List D → Prop} (hd : seqOf d xs) (h : f (xs.map pr)) : dSeq f d := by
  cases d <;> simp only [seqOf] at hd
  · subst hd; exact h
  · subst hd; exact h
noncomputable abbrev qz (p : Nat) (x : Pr) (xs : List Pr) : D := .tup [ZL false p (pmin x xs).1 (pmin x xs).2, ZL true p (pmax x xs).1 (pmax x xs).2]
end
end
section
open PySem PySem.W PySem.Calls PyProof.Rows PySem.SeqAt
section
variable {c : Cx}
theorem T_qs2 (P : Prog c) {n p : Nat} {d₁ d₂ : D} {a b u v : Pr} (h1 : seqOf d₁ [a, b]) (h2 : seqOf d₂ [u, v]) (ha : Bs a) (hb : Bs b) (hu : Bs u) (hv : Bs v) (u0 : u.1 ≠ 0) (v0 : v.1 ≠ 0) (hp : p ≤ 300) :
    Tell c (n + 4) "_law_quotients" [d₁, d₂, .int p] (qz p (byp a u) [byp a v, byp b u, byp b v]) := by
  have f1 := P.is_law_by
  have f2 := P.is_law_outwards
  have t1 := T_by P (n := n + 2) ha hu u0
  have t2 := T_by P (n := n + 2) ha hv v0
  have t3 := T_by P (n := n + 2) hb hu u0
  have t4 := T_by P (n := n + 2) hb hv v0
  have t5 := T_outwards P (n := n) (p := p) (x := byp a u) (xs := [byp a v, byp b u, byp b v]) (byp_bd ha hu u0)
    (by intro w hw; simp only [List.mem_cons, List.not_mem_nil, or_false] at hw; rcases hw with rfl | rfl | rfl <;> apply byp_bd <;> assumption) (by simp) hp
  refine P.t_law_quotients3 (n + 3) _ _ _ _ ?_
  unfold c_law_quotients
  repeat' walk_at "bw1"
  refine r_comp2 ?_
  repeat' walk_at "bw1"
  refine r_seqOf h1 ⟨flats_pr _, by simp, ?_⟩
  refine r_b2o ?_
  repeat' walk_at "bw1"
  refine r_seqOf h2 ⟨flats_pr _, by simp, ?_⟩
  refine r_b3 ?_
  repeat' walk_at "bw1"
  refine ⟨_, t1, rfl, ?_⟩
  refine r_b3 ?_
  repeat' walk_at "bw1"
  refine ⟨_, t2, rfl, ?_⟩
  refine r_b0 ?_
  refine r_b2o ?_
  repeat' walk_at "bw1"
  refine r_seqOf h2 ⟨flats_pr _, by simp, ?_⟩
  refine r_b3 ?_
  repeat' walk_at "bw1"
  refine ⟨_, t3, rfl, ?_⟩
  refine r_b3 ?_
  repeat' walk_at "bw1"
  refine ⟨_, t4, rfl, ?_⟩
  refine r_b0 ?_
  refine r_b0 ?_
  repeat' walk_at "bw1"
  exact ⟨_, t5, rfl⟩
theorem T_qs1 (P : Prog c) {n p : Nat} {d₁ d₂ : D} {a b u : Pr} (h1 : seqOf d₁ [a, b]) (h2 : seqOf d₂ [u]) (ha : Bs a) (hb : Bs b) (hu : Bs u) (u0 : u.1 ≠ 0) (hp : p ≤ 300) :
    Tell c (n + 4) "_law_quotients" [d₁, d₂, .int p] (qz p (byp a u) [byp b u]) := by
  have f1 := P.is_law_by
  have f2 := P.is_law_outwards
  have t1 := T_by P (n := n + 2) ha hu u0
  have t3 := T_by P (n := n + 2) hb hu u0
  have t5 := T_outwards P (n := n) (p := p) (x := byp a u) (xs := [byp b u]) (byp_bd ha hu u0)
    (by intro w hw; simp only [List.mem_cons, List.not_mem_nil, or_false] at hw; rcases hw with rfl; apply byp_bd <;> assumption) (by simp) hp
  refine P.t_law_quotients3 (n + 3) _ _ _ _ ?_
  unfold c_law_quotients
  repeat' walk_at "bw1"
  refine r_comp2 ?_
  repeat' walk_at "bw1"
  refine r_seqOf h1 ⟨flats_pr _, by simp, ?_⟩
  refine r_b2o ?_
  repeat' walk_at "bw1"
  refine r_seqOf h2 ⟨flats_pr _, by simp, ?_⟩
  refine r_b3 ?_
  repeat' walk_at "bw1"
  refine ⟨_, t1, rfl, ?_⟩
  refine r_b0 ?_
  refine r_b2o ?_
  repeat' walk_at "bw1"
  refine r_seqOf h2 ⟨flats_pr _, by simp, ?_⟩
  refine r_b3 ?_
  repeat' walk_at "bw1"
  refine ⟨_, t3, rfl, ?_⟩
  refine r_b0 ?_
  refine r_b0 ?_
  repeat' walk_at "bw1"
  exact ⟨_, t5, rfl⟩

-- made
theorem T_made (P : Prog c) {n : Nat} {a b : Pr} {d : D} (h : seqOf d [a, b]) : Tell c (n + 3) "_law_made" [d] (.tup [fp a.1 (1 - bl a.2), fp b.1 (1 - bl b.2)]) := by
  have f1 := P.is_from_man_exp
  have t1 := T_from_man_exp P (n := n) (w := a.1) (e := 1 - bl a.2)
  have t2 := T_from_man_exp P (n := n) (w := b.1) (e := 1 - bl b.2)
  have i1 := ibl a.2
  have i2 := ibl b.2
  have fl : ∀ w e : Int, (fp w e).flat = true := by
    intro w e
    by_cases hw : w = 0
    · subst hw; rfl
    · rw [fp_raw hw]; rfl
  refine P.t_law_made1 (n + 2) _ _ ?_
  unfold c_law_made
  refine r_ret (r_tupOf (r_comp ?_))
  repeat' walk_at "bw1"
  refine r_seqOf h ⟨flats_pr _, by simp, ?_⟩
  refine r_b2 ?_
  repeat' walk_at "bw1"
  rw [i1]
  refine ⟨_, t1, fl _ _, ?_⟩
  refine r_b2 ?_
  repeat' walk_at "bw1"
  rw [i2]
  refine ⟨_, t2, fl _ _, ?_⟩
  refine r_b0 ?_
  exact r_dList ⟨by simp, rfl⟩
end
end
section
open PySem PySem.W PySem.Calls PyProof.Rows PySem.SeqAt
section
variable {c : Cx}
theorem T_number (P : Prog c) {n : Nat} {ns : List Int} (hl : ns.length ≤ 1000) (i : Nat) : ∃ v : Int, Tell c (n + 1) "_law_number" [.list (ns.map D.int), .int i] (.int v) := by
  have m1 : IntMulOk 41 i := IntMulOk.of_left (by decide)
  by_cases h : i < ns.length
  · refine ⟨ns[i], P.t_law_number2 n _ _ _ ?_⟩
    unfold c_law_number
    refine r_ret (r_ite (r_tcmp ?_))
    repeat' walk_at "bw1"
    refine r_len ?_
    repeat' walk_at "bw1"
    refine r_dList ⟨by simp; omega, ?_⟩
    rw [List.length_map]
    repeat' walk_at "bw1"
    refine r_subL (by omega) (by omega) (d := .int ns[i]) ?_ rfl
    rw [Int.toNat_natCast, List.getElem?_map, List.getElem?_eq_getElem h]; rfl
  · refine ⟨41 * i + 17, P.t_law_number2 n _ _ _ ?_⟩
    unfold c_law_number
    refine r_ret (r_ite (r_tcmp ?_))
    repeat' walk_at "bw1"
    refine r_len ?_
    repeat' walk_at "bw1"
    refine r_dList ⟨by simp; omega, ?_⟩
    rw [List.length_map]
    repeat' walk_at "bw1"
    rfl
structure Num (x : Pr) : Prop where
  ex : ∃ (v : Int) (i k : Nat), v.natAbs ≤ 2047 ∧ i ≤ 12 ∧ k ≤ 12 ∧ x = (v * 2 ^ i, 2 ^ k)
theorem fmodp (a : Int) {b : Int} (hb : 0 ≤ b) : a.fmod b = a % b := Int.fmod_eq_emod_of_nonneg a hb
theorem T_drawn (P : Prog c) {n : Nat} {ns : List Int} (hl : ns.length ≤ 1000) (i : Nat) : ∃ x : Pr, Num x ∧ Tell c (n + 2) "_law_drawn" [.list (ns.map D.int), .int i] (pr x) := by
  have f1 := P.is_law_number
  obtain ⟨v₁, t1⟩ := T_number P (n := n) hl i
  obtain ⟨v₂, t2⟩ := T_number P (n := n) hl (i + 1)
  obtain ⟨v₃, t3⟩ := T_number P (n := n) hl (i + 2)
  have e2 : ((i + 1 : Nat) : Int) = (i : Int) + 1 := by push_cast; rfl
  have e3 : ((i + 2 : Nat) : Int) = (i : Int) + 2 := by push_cast; rfl
  rw [e2] at t2
  rw [e3] at t3
  -- the two ends
  have fin : ∀ (w q : Int), w.natAbs ≤ 2047 → -12 ≤ q → q ≤ 12 → ∃ x : Pr, Num x ∧ (0 ≤ q → x = (w * 2 ^ q.toNat, 1)) ∧ (¬ 0 ≤ q → x = (w, 2 ^ (-q).toNat)) := by
    intro w q hw h1 h2
    by_cases h0 : 0 ≤ q
    · exact ⟨(w * 2 ^ q.toNat, 1), ⟨w, q.toNat, 0, hw, by omega, by omega, rfl⟩, fun _ => rfl, fun h => (h h0).elim⟩
    · exact ⟨(w, 2 ^ (-q).toNat), ⟨w, 0, (-q).toNat, hw, by omega, by omega, by simp⟩, fun h => (h0 h).elim, fun _ => rfl⟩
  have m0 : v₁.fmod 4095 = v₁ % 4095 := fmodp _ (by decide)
  have m1 : v₂.fmod 25 = v₂ % 25 := fmodp _ (by decide)
  have m2 : v₃.fmod 3 = v₃ % 3 := fmodp _ (by decide)
  have m3 : (v₁ % 4095 - 2047).fmod 3 = (v₁ % 4095 - 2047) % 3 := fmodp _ (by decide)
  have main : ∀ w q : Int, w.natAbs ≤ 2047 → -12 ≤ q → q ≤ 12 → (if v₃ % 3 = 0 then w = (v₁ % 4095 - 2047) % 3 - 1 else w = v₁ % 4095 - 2047) → q = v₂ % 25 - 12 →
      ∀ x : Pr, (0 ≤ q → x = (w * 2 ^ q.toNat, 1)) → (¬ 0 ≤ q → x = (w, 2 ^ (-q).toNat)) → Tell c (n + 2) "_law_drawn" [.list (ns.map D.int), .int i] (pr x) := by
    intro w q hw h1 h2 hwe hqe x hx1 hx2
    have p1 : 0 ≤ q → PowOk 2 q := fun h => powOk2 h (by omega)
    have p2 : ¬ 0 ≤ q → PowOk 2 (-q) := fun h => powOk2 (by omega) (by omega)
    have p3 : IntMulOk w (2 ^ q.toNat) := mulPow (Nat.le_trans (bl_mono hw) (by decide)) (by omega)
    refine P.t_law_drawn2 (n + 1) _ _ _ ?_
    unfold c_law_drawn
    repeat' walk_at "bw1"
    refine ⟨_, t1, ?_⟩
    repeat' walk_at "bw1"
    refine ⟨_, t2, ?_⟩
    repeat' walk_at "bw1"
    refine ⟨_, t3, ?_⟩
    repeat' walk_at "bw1"
    all_goals simp only [m0, m1, m2, m3] at *
    all_goals rw [← hqe] at *
    · rename_i j hh hj hq
      have hjw : j = w := by split at hwe <;> omega
      subst hjw
      refine b_pow hq (p1 hq) (b_mul p3 ?_)
      repeat' walk_at "bw1"
      rw [hx1 hq]; rfl
    · rename_i j hh hj hq
      have hjw : j = w := by split at hwe <;> omega
      subst hjw
      refine b_pow (by omega) (p2 hq) ?_
      repeat' walk_at "bw1"
      rw [hx2 hq, pow_cast]
    · rename_i hq
      have hjw : v₁ % 4095 - 2047 = w := by split at hwe <;> omega
      rw [hjw]
      refine b_pow hq (p1 hq) (b_mul p3 ?_)
      repeat' walk_at "bw1"
      rw [hx1 hq]; rfl
    · rename_i hq
      have hjw : v₁ % 4095 - 2047 = w := by split at hwe <;> omega
      rw [hjw]
      refine b_pow (by omega) (p2 hq) ?_
      repeat' walk_at "bw1"
      rw [hx2 hq, pow_cast]
  by_cases h3 : v₃ % 3 = 0
  · obtain ⟨x, nx, hx1, hx2⟩ := fin ((v₁ % 4095 - 2047) % 3 - 1) (v₂ % 25 - 12) (by omega) (by omega) (by omega)
    exact ⟨x, nx, main _ _ (by omega) (by omega) (by omega) (by rw [if_pos h3]) rfl x hx1 hx2⟩
  · obtain ⟨x, nx, hx1, hx2⟩ := fin (v₁ % 4095 - 2047) (v₂ % 25 - 12) (by omega) (by omega) (by omega)
    exact ⟨x, nx, main _ _ (by omega) (by omega) (by omega) (by rw [if_neg h3]) rfl x hx1 hx2⟩
end
end
section
open PySem PySem.W PySem.Calls PyProof.Rows PySem.SeqAt
theorem lo_gen {p : Nat} {x y : Pr} {xs : List Pr} (hx : 0 < x.2) (hxs : ∀ v ∈ xs, 0 < v.2) (hy : 0 < y.2) (h2 : p = 0 → (∀ v ∈ x :: xs, P2s v) ∧ P2s y)
    (hm : ∃ v ∈ x :: xs, v.1 * y.2 = y.1 * v.2) (hle : ∀ v ∈ x :: xs, y.1 * v.2 ≤ v.1 * y.2) : ZL false p (pmin x xs).1 (pmin x xs).2 = ZL false p y.1 y.2 := by
  obtain ⟨m, le⟩ := pmin_spec hx hxs
  have hpos : 0 < (pmin x xs).2 := by rcases List.mem_cons.mp m with q | q; rw [q]; exact hx; exact hxs _ q
  refine ZL_ratio (x := pmin x xs) (y := y) hpos hy (fun h0 => ⟨(h2 h0).1 _ m, (h2 h0).2⟩) ?_
  obtain ⟨v, hv, e⟩ := hm
  have hv0 : 0 < v.2 := by rcases List.mem_cons.mp hv with q | q; rw [q]; exact hx; exact hxs _ q
  exact Int.le_antisymm (cross_trans hv0 (le v hv) (Int.le_of_eq e)) (hle _ m)
theorem hi_gen {p : Nat} {x y : Pr} {xs : List Pr} (hx : 0 < x.2) (hxs : ∀ v ∈ xs, 0 < v.2) (hy : 0 < y.2) (h2 : p = 0 → (∀ v ∈ x :: xs, P2s v) ∧ P2s y)
    (hm : ∃ v ∈ x :: xs, v.1 * y.2 = y.1 * v.2) (hle : ∀ v ∈ x :: xs, v.1 * y.2 ≤ y.1 * v.2) : ZL true p (pmax x xs).1 (pmax x xs).2 = ZL true p y.1 y.2 := by
  obtain ⟨m, le⟩ := pmax_spec hx hxs
  have hpos : 0 < (pmax x xs).2 := by rcases List.mem_cons.mp m with q | q; rw [q]; exact hx; exact hxs _ q
  refine ZL_ratio (x := pmax x xs) (y := y) hpos hy (fun h0 => ⟨(h2 h0).1 _ m, (h2 h0).2⟩) ?_
  obtain ⟨v, hv, e⟩ := hm
  have hv0 : 0 < v.2 := by rcases List.mem_cons.mp hv with q | q; rw [q]; exact hx; exact hxs _ q
  exact Int.le_antisymm (hle _ m) (cross_trans hv0 (Int.le_of_eq e.symm) (le v hv))
/-- x is w / 2^s -/
def Is (x : Pr) (w : Int) (s : Nat) : Prop := x.1 * (2 ^ s : Nat) = w * x.2
theorem Is.sgn {x : Pr} {w : Int} {s : Nat} (h : Is x w s) (hx : 0 < x.2) : (0 < x.1 ↔ 0 < w) ∧ (x.1 < 0 ↔ w < 0) ∧ (x.1 = 0 ↔ w = 0) := by
  have k1 : (0 : Int) < (2 ^ s : Nat) := by have := pow_pos' s; omega
  have k2 : (0 : Int) < x.2 := by omega
  unfold Is at h
  have a1 : 0 < x.1 → 0 < w := fun q => posL (h ▸ Int.mul_pos q k1) k2
  have a2 : 0 < w → 0 < x.1 := fun q => posL (h ▸ Int.mul_pos q k2) k1
  have b1 : x.1 < 0 → w < 0 := fun q => by
    have := Int.mul_neg_of_neg_of_pos q k1
    rw [h] at this
    rcases Int.lt_or_le w 0 with r | r
    · exact r
    · have := Int.mul_nonneg r (Int.le_of_lt k2); omega
  have b2 : w < 0 → x.1 < 0 := fun q => by
    have := Int.mul_neg_of_neg_of_pos q k2
    rw [← h] at this
    rcases Int.lt_or_le x.1 0 with r | r
    · exact r
    · have := Int.mul_nonneg r (Int.le_of_lt k1); omega
  exact ⟨⟨a1, a2⟩, ⟨b1, b2⟩, by constructor <;> intro q <;> omega⟩
/-- the quotient's ratio -/
def qt (α γ : Int) (s₁ s₂ : Nat) : Pr := ((if γ < 0 then -α else α) * 2 ^ s₂, 2 ^ s₁ * γ.natAbs)
theorem byp_ratio {a u : Pr} {α γ : Int} {s₁ s₂ : Nat} (ha : Is a α s₁) (hu : Is u γ s₂) (hup : 0 < u.2) (h0 : γ ≠ 0) : (byp a u).1 * (qt α γ s₁ s₂).2 = (qt α γ s₁ s₂).1 * (byp a u).2 := by
  have hs := hu.sgn hup
  have e1 : a.1 * (2 ^ s₁ : Nat) = α * a.2 := ha
  have e2 : u.1 * (2 ^ s₂ : Nat) = γ * u.2 := hu
  unfold byp qt
  simp only [Int.natCast_mul]
  rcases Int.lt_or_le γ 0 with h | h
  · rw [if_neg (show ¬ 0 < u.1 by omega), if_pos h]
    have c1 : ((γ.natAbs : Nat) : Int) = -γ := by omega
    have c2 : ((u.1.natAbs : Nat) : Int) = -u.1 := by omega
    rw [c1, c2, pow_cast]
    calc a.1 * u.2 * -1 * (((2 ^ s₁ : Nat) : Int) * -γ) = (a.1 * ((2 ^ s₁ : Nat) : Int)) * (γ * u.2) := by simp only [Int.mul_neg, Int.mul_one, Int.neg_mul, Int.neg_neg]; ac_rfl
      _ = α * a.2 * (u.1 * ((2 ^ s₂ : Nat) : Int)) := by rw [e1, e2]
      _ = -α * ((2 ^ s₂ : Nat) : Int) * ((a.2 : Int) * -u.1) := by simp only [Int.mul_neg, Int.neg_mul, Int.neg_neg]; ac_rfl
  · rw [if_pos (show 0 < u.1 by omega), if_neg (show ¬ γ < 0 by omega)]
    have c1 : ((γ.natAbs : Nat) : Int) = γ := by omega
    have c2 : ((u.1.natAbs : Nat) : Int) = u.1 := by omega
    rw [c1, c2, pow_cast, Int.mul_one]
    calc a.1 * u.2 * (((2 ^ s₁ : Nat) : Int) * γ) = (a.1 * ((2 ^ s₁ : Nat) : Int)) * (γ * u.2) := by ac_rfl
      _ = α * a.2 * (u.1 * ((2 ^ s₂ : Nat) : Int)) := by rw [e1, e2]
      _ = α * ((2 ^ s₂ : Nat) : Int) * ((a.2 : Int) * u.1) := by ac_rfl
theorem qt_Q {up : Bool} {p s₁ s₂ : Nat} {α γ : Int} (hp : 1 ≤ p) (h0 : γ ≠ 0) (h1 : s₁ ≤ 400) (h2 : s₂ ≤ 400) : ZL up p (qt α γ s₁ s₂).1 (qt α γ s₁ s₂).2 = Q up p α γ ((s₂ : Int) - s₁) := by
  unfold ZL
  rw [if_neg (by omega)]
  have hg : 0 < γ.natAbs := by omega
  refine Z_same hp (Nat.mul_pos (pow_pos' s₁) hg) hg ?_
  have hP0 : P2 0 = 2 ^ s₁ * P2 (-(s₁ : Int)) := by rw [← P2_add (by omega), show -(s₁ : Int) + s₁ = 0 by omega]
  have hP1 : P2 ((s₂ : Int) - s₁) = 2 ^ s₂ * P2 (-(s₁ : Int)) := by rw [← P2_add (by omega), show -(s₁ : Int) + s₂ = (s₂ : Int) - s₁ by omega]
  unfold qt
  rw [hP0, hP1]
  push_cast
  ac_rfl
/-- order of two quotients -/
theorem qt_le {α β γ δ : Int} {s₁ s₂ : Nat} (h : (if γ < 0 then -α else α) * δ.natAbs ≤ (if δ < 0 then -β else β) * γ.natAbs) : (qt α γ s₁ s₂).1 * (qt β δ s₁ s₂).2 ≤ (qt β δ s₁ s₂).1 * (qt α γ s₁ s₂).2 := by
  unfold qt
  have k : (0 : Int) ≤ ((2 ^ s₂ * 2 ^ s₁ : Nat) : Int) := Int.natCast_nonneg _
  have := Int.mul_le_mul_of_nonneg_right h k
  simp only [Int.natCast_mul] at this ⊢
  rw [pow_cast]
  calc _ = (if γ < 0 then -α else α) * (δ.natAbs : Int) * (((2 ^ s₂ : Nat) : Int) * ((2 ^ s₁ : Nat) : Int)) := by ac_rfl
    _ ≤ _ := this
    _ = _ := by ac_rfl
end
section
open PySem PySem.W PySem.Calls PyProof.Rows PySem.SeqAt
theorem qt_pos {α γ : Int} {s₁ s₂ : Nat} (h : γ ≠ 0) : 0 < (qt α γ s₁ s₂).2 := Nat.mul_pos (pow_pos' s₁) (by omega)
/-- the order of quotients, in whole numbers -/
def Rle (α γ β δ : Int) : Prop := (if γ < 0 then -α else α) * δ.natAbs ≤ (if δ < 0 then -β else β) * γ.natAbs
/-- the least of the quotients -/
theorem q_lo {p s₁ s₂ : Nat} {x : Pr} {xs : List Pr} {α γ : Int} (hp : 1 ≤ p) (h1 : s₁ ≤ 400) (h2 : s₂ ≤ 400) (h0 : γ ≠ 0) (hx : 0 < x.2) (hxs : ∀ v ∈ xs, 0 < v.2)
    (hr : ∀ v ∈ x :: xs, ∃ β δ : Int, δ ≠ 0 ∧ v.1 * (qt β δ s₁ s₂).2 = (qt β δ s₁ s₂).1 * v.2 ∧ Rle α γ β δ)
    (hm : ∃ v ∈ x :: xs, v.1 * (qt α γ s₁ s₂).2 = (qt α γ s₁ s₂).1 * v.2) : ZL false p (pmin x xs).1 (pmin x xs).2 = Q false p α γ ((s₂ : Int) - s₁) := by
  rw [← qt_Q hp h0 h1 h2]
  refine lo_gen hx hxs (qt_pos h0) (fun h => by omega) hm fun v hv => ?_
  obtain ⟨β, δ, d0, e, hle⟩ := hr v hv
  exact cross_trans (qt_pos d0) (qt_le hle) (Int.le_of_eq e.symm)
theorem q_hi {p s₁ s₂ : Nat} {x : Pr} {xs : List Pr} {α γ : Int} (hp : 1 ≤ p) (h1 : s₁ ≤ 400) (h2 : s₂ ≤ 400) (h0 : γ ≠ 0) (hx : 0 < x.2) (hxs : ∀ v ∈ xs, 0 < v.2)
    (hr : ∀ v ∈ x :: xs, ∃ β δ : Int, δ ≠ 0 ∧ v.1 * (qt β δ s₁ s₂).2 = (qt β δ s₁ s₂).1 * v.2 ∧ Rle β δ α γ)
    (hm : ∃ v ∈ x :: xs, v.1 * (qt α γ s₁ s₂).2 = (qt α γ s₁ s₂).1 * v.2) : ZL true p (pmax x xs).1 (pmax x xs).2 = Q true p α γ ((s₂ : Int) - s₁) := by
  rw [← qt_Q hp h0 h1 h2]
  refine hi_gen hx hxs (qt_pos h0) (fun h => by omega) hm fun v hv => ?_
  obtain ⟨β, δ, d0, e, hle⟩ := hr v hv
  exact cross_trans (qt_pos d0) (Int.le_of_eq e) (qt_le hle)
theorem Q_neg {up : Bool} {p : Nat} {x y e : Int} (h : y ≠ 0) : Q up p (-x) (-y) e = Q up p x y e := by
  unfold Q
  rw [Int.natAbs_neg]
  rcases Int.lt_or_le y 0 with g | g
  · rw [if_neg (show ¬ -y < 0 by omega), if_pos g]
  · rw [if_pos (show -y < 0 by omega), if_neg (show ¬ y < 0 by omega), Int.neg_neg]
theorem Rle_same {x y z w : Int} (h : (0 < y ∧ 0 < w) ∨ (y < 0 ∧ w < 0)) : Rle x y z w ↔ x * w ≤ z * y := by
  unfold Rle
  rcases h with ⟨h1, h2⟩ | ⟨h1, h2⟩
  · rw [if_neg (show ¬ y < 0 by omega), if_neg (show ¬ w < 0 by omega), show ((w.natAbs : Nat) : Int) = w by omega, show ((y.natAbs : Nat) : Int) = y by omega]
  · rw [if_pos h1, if_pos h2, show ((w.natAbs : Nat) : Int) = -w by omega, show ((y.natAbs : Nat) : Int) = -y by omega, Int.neg_mul_neg, Int.neg_mul_neg]
theorem Q_zero {up : Bool} {p : Nat} {y e : Int} : Q up p 0 y e = fz := by
  unfold Q
  have : (if y < 0 then -(0 : Int) else 0) = 0 := by split <;> rfl
  rw [this, Z_zero]
/-- four quotients, the divisor not nought -/
theorem quot4 {p s₁ s₂ : Nat} {a b u v : Pr} {α β γ δ : Int} (hp : 1 ≤ p) (h1 : s₁ ≤ 400) (h2 : s₂ ≤ 400) (ha : Is a α s₁) (hb : Is b β s₁) (hu : Is u γ s₂) (hv : Is v δ s₂) (ba : Bs a) (bb : Bs b) (bu : Bs u) (bv : Bs v)
    (hab : α ≤ β) (hst : γ ≤ δ) (h0 : 0 < γ ∨ δ < 0) : qz p (byp a u) [byp a v, byp b u, byp b v] = divD p α β γ δ ((s₂ : Int) - s₁) := by
  have g0 : γ ≠ 0 := by omega
  have d0 : δ ≠ 0 := by omega
  have u0 : u.1 ≠ 0 := fun h => g0 ((hu.sgn bu.p).2.2.mp h)
  have v0 : v.1 ≠ 0 := fun h => d0 ((hv.sgn bv.p).2.2.mp h)
  have r1 := byp_ratio ha hu bu.p g0
  have r2 := byp_ratio ha hv bv.p d0
  have r3 := byp_ratio hb hu bu.p g0
  have r4 := byp_ratio hb hv bv.p d0
  have p1 := (byp_bd ba bu u0).p
  have p2 := (byp_bd ba bv v0).p
  have p3 := (byp_bd bb bu u0).p
  have p4 := (byp_bd bb bv v0).p
  have px : ∀ w ∈ [byp a v, byp b u, byp b v], 0 < w.2 := by
    intro w hw; simp only [List.mem_cons, List.not_mem_nil, or_false] at hw; rcases hw with rfl | rfl | rfl <;> assumption
  -- the products
  have k1 : 0 ≤ γ → α * γ ≤ β * γ := fun h => Int.mul_le_mul_of_nonneg_right hab h
  have k2 : 0 ≤ δ → α * δ ≤ β * δ := fun h => Int.mul_le_mul_of_nonneg_right hab h
  have k3 : γ ≤ 0 → β * γ ≤ α * γ := fun h => Int.mul_le_mul_of_nonpos_right hab h
  have k4 : δ ≤ 0 → β * δ ≤ α * δ := fun h => Int.mul_le_mul_of_nonpos_right hab h
  have k5 : 0 ≤ α → α * γ ≤ α * δ := fun h => Int.mul_le_mul_of_nonneg_left hst h
  have k6 : α ≤ 0 → α * δ ≤ α * γ := fun h => Int.mul_le_mul_of_nonpos_left h hst
  have k7 : 0 ≤ β → β * γ ≤ β * δ := fun h => Int.mul_le_mul_of_nonneg_left hst h
  have k8 : β ≤ 0 → β * δ ≤ β * γ := fun h => Int.mul_le_mul_of_nonpos_left h hst
  have lo := fun (x y : Int) (hy : y ≠ 0) (q1 : Rle x y α γ) (q2 : Rle x y α δ) (q3 : Rle x y β γ) (q4 : Rle x y β δ) (hm : (x = α ∨ x = β) ∧ (y = γ ∨ y = δ)) =>
    q_lo (p := p) (x := byp a u) (xs := [byp a v, byp b u, byp b v]) (α := x) (γ := y) hp h1 h2 hy p1 px
      (by intro w hw; simp only [List.mem_cons, List.not_mem_nil, or_false] at hw; rcases hw with rfl | rfl | rfl | rfl; exact ⟨_, _, g0, r1, q1⟩; exact ⟨_, _, d0, r2, q2⟩; exact ⟨_, _, g0, r3, q3⟩; exact ⟨_, _, d0, r4, q4⟩)
      (by rcases hm with ⟨rfl | rfl, rfl | rfl⟩; exact ⟨_, by simp, r1⟩; exact ⟨_, by simp, r2⟩; exact ⟨_, by simp, r3⟩; exact ⟨_, by simp, r4⟩)
  have hi := fun (x y : Int) (hy : y ≠ 0) (q1 : Rle α γ x y) (q2 : Rle α δ x y) (q3 : Rle β γ x y) (q4 : Rle β δ x y) (hm : (x = α ∨ x = β) ∧ (y = γ ∨ y = δ)) =>
    q_hi (p := p) (x := byp a u) (xs := [byp a v, byp b u, byp b v]) (α := x) (γ := y) hp h1 h2 hy p1 px
      (by intro w hw; simp only [List.mem_cons, List.not_mem_nil, or_false] at hw; rcases hw with rfl | rfl | rfl | rfl; exact ⟨_, _, g0, r1, q1⟩; exact ⟨_, _, d0, r2, q2⟩; exact ⟨_, _, g0, r3, q3⟩; exact ⟨_, _, d0, r4, q4⟩)
      (by rcases hm with ⟨rfl | rfl, rfl | rfl⟩; exact ⟨_, by simp, r1⟩; exact ⟨_, by simp, r2⟩; exact ⟨_, by simp, r3⟩; exact ⟨_, by simp, r4⟩)
  have R := fun (x y z w : Int) (hy : y = γ ∨ y = δ) (hw : w = γ ∨ w = δ) => (Rle_same (x := x) (y := y) (z := z) (w := w) (by rcases h0 with h | h; left; omega; right; omega)).mpr
  have lo' := fun (x y : Int) (hm : (x = α ∨ x = β) ∧ (y = γ ∨ y = δ)) (q1 : x * γ ≤ α * y) (q2 : x * δ ≤ α * y) (q3 : x * γ ≤ β * y) (q4 : x * δ ≤ β * y) =>
    lo x y (by omega) (R x y α γ hm.2 (.inl rfl) q1) (R x y α δ hm.2 (.inr rfl) q2) (R x y β γ hm.2 (.inl rfl) q3) (R x y β δ hm.2 (.inr rfl) q4) hm
  have hi' := fun (x y : Int) (hm : (x = α ∨ x = β) ∧ (y = γ ∨ y = δ)) (q1 : α * y ≤ x * γ) (q2 : α * y ≤ x * δ) (q3 : β * y ≤ x * γ) (q4 : β * y ≤ x * δ) =>
    hi x y (by omega) (R α γ x y (.inl rfl) hm.2 q1) (R α δ x y (.inr rfl) hm.2 q2) (R β γ x y (.inl rfl) hm.2 q3) (R β δ x y (.inr rfl) hm.2 q4) hm
  clear lo hi R
  unfold qz divD div0
  by_cases hz : α = 0 ∧ β = 0
  · obtain ⟨rfl, rfl⟩ := hz
    rw [if_pos ⟨rfl, rfl⟩, if_neg (by omega), lo' 0 γ ⟨.inl rfl, .inl rfl⟩ (by omega) (by omega) (by omega) (by omega), hi' 0 γ ⟨.inl rfl, .inl rfl⟩ (by omega) (by omega) (by omega) (by omega), Q_zero, Q_zero]
  · rw [if_neg hz, if_neg (show ¬ (γ < 0 ∧ 0 < δ) by omega)]
    rcases h0 with h | h
    · rw [if_neg (show ¬ γ < 0 by omega), if_neg hz, if_neg g0]
      by_cases c1 : 0 ≤ α
      · rw [if_pos c1, lo' α δ ⟨.inl rfl, .inr rfl⟩ (by omega) (by omega) (by omega) (by omega), hi' β γ ⟨.inr rfl, .inl rfl⟩ (by omega) (by omega) (by omega) (by omega)]
      · rw [if_neg c1]
        by_cases c2 : β ≤ 0
        · rw [if_pos c2, lo' α γ ⟨.inl rfl, .inl rfl⟩ (by omega) (by omega) (by omega) (by omega), hi' β δ ⟨.inr rfl, .inr rfl⟩ (by omega) (by omega) (by omega) (by omega)]
        · rw [if_neg c2, lo' α γ ⟨.inl rfl, .inl rfl⟩ (by omega) (by omega) (by omega) (by omega), hi' β γ ⟨.inr rfl, .inl rfl⟩ (by omega) (by omega) (by omega) (by omega)]
    · rw [if_pos (show γ < 0 by omega), if_neg (show ¬ (-β = 0 ∧ -α = 0) by omega), if_neg (show ¬ -δ = 0 by omega)]
      by_cases c1 : 0 ≤ -β
      · rw [if_pos c1, Q_neg g0, Q_neg d0, lo' β γ ⟨.inr rfl, .inl rfl⟩ (by omega) (by omega) (by omega) (by omega), hi' α δ ⟨.inl rfl, .inr rfl⟩ (by omega) (by omega) (by omega) (by omega)]
      · rw [if_neg c1]
        by_cases c2 : -α ≤ 0
        · rw [if_pos c2, Q_neg g0, Q_neg d0, lo' β δ ⟨.inr rfl, .inr rfl⟩ (by omega) (by omega) (by omega) (by omega), hi' α γ ⟨.inl rfl, .inl rfl⟩ (by omega) (by omega) (by omega) (by omega)]
        · rw [if_neg c2, Q_neg d0, Q_neg d0, lo' β δ ⟨.inr rfl, .inr rfl⟩ (by omega) (by omega) (by omega) (by omega), hi' α δ ⟨.inl rfl, .inr rfl⟩ (by omega) (by omega) (by omega) (by omega)]
end
section
open PySem PySem.W PySem.Calls PyProof.Rows PySem.SeqAt
theorem quot2 {p s₁ s₂ : Nat} {a b o : Pr} {α β θ : Int} (hp : 1 ≤ p) (h1 : s₁ ≤ 400) (h2 : s₂ ≤ 400) (ha : Is a α s₁) (hb : Is b β s₁) (ho : Is o θ s₂) (ba : Bs a) (bb : Bs b) (bo : Bs o)
    (hab : α ≤ β) (h0 : θ ≠ 0) : qz p (byp a o) [byp b o] = .tup [Q false p (if 0 < θ then α else β) θ ((s₂ : Int) - s₁), Q true p (if 0 < θ then β else α) θ ((s₂ : Int) - s₁)] := by
  have u0 : o.1 ≠ 0 := fun h => h0 ((ho.sgn bo.p).2.2.mp h)
  have r1 := byp_ratio ha ho bo.p h0
  have r3 := byp_ratio hb ho bo.p h0
  have p1 := (byp_bd ba bo u0).p
  have p3 := (byp_bd bb bo u0).p
  have px : ∀ w ∈ [byp b o], 0 < w.2 := by
    intro w hw; simp only [List.mem_cons, List.not_mem_nil, or_false] at hw; rcases hw with rfl; assumption
  have k1 : 0 ≤ θ → α * θ ≤ β * θ := fun h => Int.mul_le_mul_of_nonneg_right hab h
  have k3 : θ ≤ 0 → β * θ ≤ α * θ := fun h => Int.mul_le_mul_of_nonpos_right hab h
  have hs : (0 < θ ∧ 0 < θ) ∨ (θ < 0 ∧ θ < 0) := by omega
  have R := fun (x z : Int) => (Rle_same (x := x) (y := θ) (z := z) (w := θ) hs).mpr
  have lo := fun (x : Int) (q1 : x * θ ≤ α * θ) (q3 : x * θ ≤ β * θ) (hm : x = α ∨ x = β) =>
    q_lo (p := p) (x := byp a o) (xs := [byp b o]) (α := x) (γ := θ) hp h1 h2 h0 p1 px
      (by intro w hw; simp only [List.mem_cons, List.not_mem_nil, or_false] at hw; rcases hw with rfl | rfl; exact ⟨_, _, h0, r1, R _ _ q1⟩; exact ⟨_, _, h0, r3, R _ _ q3⟩)
      (by rcases hm with rfl | rfl; exact ⟨_, by simp, r1⟩; exact ⟨_, by simp, r3⟩)
  have hi := fun (x : Int) (q1 : α * θ ≤ x * θ) (q3 : β * θ ≤ x * θ) (hm : x = α ∨ x = β) =>
    q_hi (p := p) (x := byp a o) (xs := [byp b o]) (α := x) (γ := θ) hp h1 h2 h0 p1 px
      (by intro w hw; simp only [List.mem_cons, List.not_mem_nil, or_false] at hw; rcases hw with rfl | rfl; exact ⟨_, _, h0, r1, R _ _ q1⟩; exact ⟨_, _, h0, r3, R _ _ q3⟩)
      (by rcases hm with rfl | rfl; exact ⟨_, by simp, r1⟩; exact ⟨_, by simp, r3⟩)
  unfold qz
  by_cases h : 0 < θ
  · rw [if_pos h, if_pos h, lo α (by omega) (by omega) (.inl rfl), hi β (by omega) (by omega) (.inr rfl)]
  · rw [if_neg h, if_neg h, lo β (by omega) (by omega) (.inr rfl), hi α (by omega) (by omega) (.inl rfl)]

section
variable {FN : Str → Prop} {T : Str → List D → D → Prop} {G : Str → D → Prop} {GD : Str → Str → D → Prop} {Q' : D → Prop}
theorem r_subS {d : D} {xs : List Pr} {k : Int} {x : Pr} (hd : seqOf d xs) (h0 : 0 ≤ k) (h1 : k < 1000) (hx : xs[k.toNat]? = some x) (h : Q' (pr x)) : dSub d (.int k) Q' := by
  cases d <;> simp only [seqOf] at hd
  · subst hd; exact ⟨h0, h1, pr x, by rw [List.getElem?_map, hx]; rfl, h⟩
  · subst hd; exact ⟨h0, h1, pr x, by rw [List.getElem?_map, hx]; rfl, h⟩
end
theorem prod_pos (x y : Int) : 0 < x * y ↔ (0 < x ∧ 0 < y) ∨ (x < 0 ∧ y < 0) := by
  rcases Int.lt_trichotomy x 0 with hx | hx | hx <;> rcases Int.lt_trichotomy y 0 with hy | hy | hy
  · have := Int.mul_pos_of_neg_of_neg hx hy; omega
  · subst hy; rw [Int.mul_zero]; omega
  · have := Int.mul_neg_of_neg_of_pos hx hy; omega
  · subst hx; rw [Int.zero_mul]; omega
  · subst hx; rw [Int.zero_mul]; omega
  · subst hx; rw [Int.zero_mul]; omega
  · have := Int.mul_neg_of_pos_of_neg hx hy; omega
  · subst hy; rw [Int.mul_zero]; omega
  · have := Int.mul_pos hx hy; omega
theorem prod_neg (x y : Int) : x * y < 0 ↔ (0 < x ∧ y < 0) ∨ (x < 0 ∧ 0 < y) := by
  rcases Int.lt_trichotomy x 0 with hx | hx | hx <;> rcases Int.lt_trichotomy y 0 with hy | hy | hy
  · have := Int.mul_pos_of_neg_of_neg hx hy; omega
  · subst hy; rw [Int.mul_zero]; omega
  · have := Int.mul_neg_of_neg_of_pos hx hy; omega
  · subst hx; rw [Int.zero_mul]; omega
  · subst hx; rw [Int.zero_mul]; omega
  · subst hx; rw [Int.zero_mul]; omega
  · have := Int.mul_neg_of_pos_of_neg hx hy; omega
  · subst hy; rw [Int.mul_zero]; omega
  · have := Int.mul_pos hx hy; omega
theorem divD_inf {p : Nat} {α β γ δ e : Int} (hA : ¬ (0 < γ ∨ δ < 0)) (hst : γ ≤ δ) (hI : (α < 0 ∧ 0 < β) ∨ (γ < 0 ∧ 0 < δ) ∨ (γ = 0 ∧ δ = 0) ∨ (α = 0 ∧ β = 0)) : divD p α β γ δ e = .tup [fni, fpi] := by
  unfold divD div0
  (repeat' split) <;> first | rfl | (exfalso; omega)
theorem divD_lo {p : Nat} {α β γ δ e : Int} (hab : α ≤ β) (hd : δ = 0) (hg : γ < 0) (hI : ¬ (α < 0 ∧ 0 < β)) (h0 : ¬ (α = 0 ∧ β = 0)) :
    divD p α β γ δ e = if β ≤ 0 then .tup [Q false p (if 0 < γ then α else β) γ e, fpi] else .tup [fni, Q true p (if 0 < γ then β else α) γ e] := by
  have g0 : γ ≠ 0 := by omega
  unfold divD div0
  rw [Q_neg g0, Q_neg g0]
  (repeat' split) <;> first | rfl | (exfalso; omega)
theorem divD_hi {p : Nat} {α β γ δ e : Int} (hab : α ≤ β) (hg : γ = 0) (hd : 0 < δ) (hI : ¬ (α < 0 ∧ 0 < β)) (h0 : ¬ (α = 0 ∧ β = 0)) :
    divD p α β γ δ e = if 0 ≤ α then .tup [Q false p (if 0 < δ then α else β) δ e, fpi] else .tup [fni, Q true p (if 0 < δ then β else α) δ e] := by
  unfold divD div0
  (repeat' split) <;> first | rfl | (exfalso; omega)
theorem bl_iadd {x y : Int} {k : Nat} (hx : bl x.natAbs ≤ k) (hy : bl y.natAbs ≤ k) : bl (x + y).natAbs ≤ k + 1 := by
  have x1 := bl_lt x.natAbs
  have x2 := bl_lt y.natAbs
  have x3 : (2 : Nat) ^ bl x.natAbs ≤ 2 ^ k := Nat.pow_le_pow_right (by decide) hx
  have x4 : (2 : Nat) ^ bl y.natAbs ≤ 2 ^ k := Nat.pow_le_pow_right (by decide) hy
  refine bl_le ?_
  have e : (2 : Nat) ^ (k + 1) = 2 ^ k + 2 ^ k := by rw [Nat.pow_succ]; omega
  omega
section
variable {c : Cx}
theorem T_quot (P : Prog c) {n p s₁ s₂ : Nat} {d₁ : D} {a b u v : Pr} {α β γ δ : Int} (h1 : seqOf d₁ [a, b]) (hp1 : 1 ≤ p) (hp : p ≤ 300) (hs1 : s₁ ≤ 400) (hs2 : s₂ ≤ 400) (ha : Is a α s₁) (hb : Is b β s₁) (hu : Is u γ s₂) (hv : Is v δ s₂) (ba : Bs a) (bb : Bs b) (bu : Bs u) (bv : Bs v)
    (hab : α ≤ β) (hst : γ ≤ δ) : Tell c (n + 5) "_law_quotient" [d₁, .tup [pr u, pr v], .int p] (divD p α β γ δ ((s₂ : Int) - s₁)) := by
  have f1 := P.is_law_quotients
  have g1 := P.g_fninf
  have g2 := P.g_finf
  have m1 : IntMulOk u.1 v.1 := mulB (Nat.le_trans bu.n (by decide)) (Nat.le_trans bv.n (by decide))
  have m2 : IntMulOk a.1 b.1 := mulB (Nat.le_trans ba.n (by decide)) (Nat.le_trans bb.n (by decide))
  have h2 : seqOf (.tup [pr u, pr v]) [u, v] := rfl
  refine P.t_law_quotient3 (n + 4) _ _ _ _ ?_
  by_cases hA : 0 < γ ∨ δ < 0
  · have hpos : 0 < u.1 * v.1 := by
      have su := hu.sgn bu.p
      have sv := hv.sgn bv.p
      rw [prod_pos]; omega
    have t1 := T_qs2 P (n := n) (p := p) h1 h2 ba bb bu bv (by intro q; rw [q, Int.zero_mul] at hpos; omega) (by intro q; rw [q, Int.mul_zero] at hpos; omega) hp
    rw [quot4 hp1 hs1 hs2 ha hb hu hv ba bb bu bv hab hst hA] at t1
    clear ha hb hu hv ba bb bu bv hab hst hA hp hp1 hs1 hs2 h2
    unfold c_law_quotient
    repeat' walk_at "bw1"
    refine ⟨_, t1, rfl⟩
  · have hnp : ¬ 0 < u.1 * v.1 := by
      have su := hu.sgn bu.p
      have sv := hv.sgn bv.p
      rw [prod_pos]; omega
    by_cases hI : (α < 0 ∧ 0 < β) ∨ (γ < 0 ∧ 0 < δ) ∨ (γ = 0 ∧ δ = 0) ∨ (α = 0 ∧ β = 0)
    · rw [divD_inf hA hst hI]
      have hI' : a.1 * b.1 < 0 ∨ u.1 * v.1 < 0 ∨ u.1 = v.1 ∨ (a.1 = b.1 ∧ b.1 = 0) := by
        have sa := ha.sgn ba.p
        have sb := hb.sgn bb.p
        have su := hu.sgn bu.p
        have sv := hv.sgn bv.p
        rw [prod_neg, prod_neg]
        rcases hI with q | q | q | q
        · exact .inl (.inr ⟨sa.2.1.mpr q.1, sb.1.mpr q.2⟩)
        · exact .inr (.inl (.inr ⟨su.2.1.mpr q.1, sv.1.mpr q.2⟩))
        · exact .inr (.inr (.inl ((su.2.2.mpr q.1).trans (sv.2.2.mpr q.2).symm)))
        · exact .inr (.inr (.inr ⟨(sa.2.2.mpr q.1).trans (sb.2.2.mpr q.2).symm, sb.2.2.mpr q.2⟩))
      clear ha hb hu hv ba bb bu bv hab hst hA hI hp hp1 hs1 hs2 h2
      unfold c_law_quotient
      repeat' first
        | walk_at "bw1"
        | (refine r_subS h1 (by decide) (by decide) (by rfl) ?_)
        | fail
      all_goals rfl
    · have key : ∀ (o : Pr) (θ : Int), Is o θ s₂ → Bs o → θ ≠ 0 → (o = u ∧ v.1 = 0 ∨ o = v ∧ v.1 ≠ 0) →
          divD p α β γ δ ((s₂ : Int) - s₁) = (if 0 < (a.1 + b.1) * o.1 then .tup [Q false p (if 0 < θ then α else β) θ ((s₂ : Int) - s₁), fpi] else .tup [fni, Q true p (if 0 < θ then β else α) θ ((s₂ : Int) - s₁)]) →
          qS c (n + 4) c_law_quotient [some d₁, some (.tup [pr u, pr v]), some (.int p), none, none, none, none, none, none, none] (fun fl => fl = .rt (divD p α β γ δ ((s₂ : Int) - s₁))) := by
        intro o θ ho bo hθ hov hD
        rw [hD]
        have m3 : IntMulOk (a.1 + b.1) o.1 := mulB (Nat.le_trans (bl_iadd ba.n bb.n) (by decide)) (Nat.le_trans bo.n (by decide))
        have t1 := T_qs1 P (n := n) (p := p) (d₂ := .list [pr o]) h1 rfl ba bb bo (fun q => hθ ((ho.sgn bo.p).2.2.mp q)) hp
        rw [quot2 hp1 hs1 hs2 ha hb ho ba bb bo hab hθ] at t1
        have n1 : ¬ a.1 * b.1 < 0 := by
          have sa := ha.sgn ba.p
          have sb := hb.sgn bb.p
          rw [prod_neg]; omega
        have n2 : ¬ u.1 * v.1 < 0 := by
          have su := hu.sgn bu.p
          have sv := hv.sgn bv.p
          rw [prod_neg]; omega
        have n3 : u.1 ≠ v.1 := by
          have su := hu.sgn bu.p
          have sv := hv.sgn bv.p
          omega
        have n4 : ¬ (a.1 = b.1 ∧ b.1 = 0) := by
          have sa := ha.sgn ba.p
          have sb := hb.sgn bb.p
          omega
        clear hD ha hb hu hv ba bb bu bv hab hst hA hI hp hp1 hs1 hs2 h2 ho bo hθ
        unfold c_law_quotient
        rcases hov with ⟨rfl, hv0⟩ | ⟨rfl, hv0⟩
        all_goals repeat' first
          | walk_at "bw1"
          | (refine r_subS h1 (by decide) (by decide) (by rfl) ?_)
          | (refine ⟨_, t1, ?_⟩)
          | fail
        all_goals first
          | (rw [if_pos (show 0 < (a.1 + b.1) * o.1 by assumption)])
          | (rw [if_neg (show ¬ 0 < (a.1 + b.1) * o.1 by assumption)])
      have sa := ha.sgn ba.p
      have sb := hb.sgn bb.p
      have su := hu.sgn bu.p
      have sv := hv.sgn bv.p
      by_cases hv0 : v.1 = 0
      · have hd : δ = 0 := sv.2.2.mp hv0
        have hg : γ < 0 := by omega
        refine key u γ hu bu (by omega) (.inl ⟨rfl, hv0⟩) ?_
        rw [divD_lo hab hd hg (by omega) (by omega)]
        have e : 0 < (a.1 + b.1) * u.1 ↔ β ≤ 0 := by rw [prod_pos]; omega
        simp only [e]
      · have d0 : δ ≠ 0 := fun q => hv0 (sv.2.2.mpr q)
        have hd : 0 < δ := by omega
        have hg : γ = 0 := by omega
        refine key v δ hv bv d0 (.inr ⟨rfl, hv0⟩) ?_
        rw [divD_hi hab hg hd (by omega) (by omega)]
        have e : 0 < (a.1 + b.1) * v.1 ↔ 0 ≤ α := by rw [prod_pos]; omega
        simp only [e]
end
end
section
open PySem PySem.W PySem.Calls PyProof.Rows PySem.SeqAt
section
variable {c : Cx}
def pwp (x : Pr) (k : Nat) : Pr := (x.1 ^ k, x.2 ^ k)
theorem T_powers (P : Prog c) {n p k : Nat} {a b : Pr} (hk : k ≤ 6) (hp : p ≤ 300) (na : bl a.1.natAbs ≤ 30) (nb : bl b.1.natAbs ≤ 30) (da : bl a.2 ≤ 14) (db : bl b.2 ≤ 14) (pa : 0 < a.2) (pb : 0 < b.2) :
    Tell c (n + 4) "_law_powers" [.tup [pr a, pr b], .int k, .int p] (if k % 2 = 0 ∧ 0 < k ∧ a.1 * b.1 < 0 then qz p (pwp a k) [pwp b k, (0, 1)] else qz p (pwp a k) [pwp b k]) := by
  have f1 := P.is_law_power
  have f2 := P.is_law_outwards
  have ba : Bs a := ⟨by omega, by omega, pa⟩
  have bb : Bs b := ⟨by omega, by omega, pb⟩
  have t1 := T_power P (n := n + 2) ba hk
  have t2 := T_power P (n := n + 2) bb hk
  have B : ∀ x : Pr, bl x.1.natAbs ≤ 30 → bl x.2 ≤ 14 → 0 < x.2 → Bd (pwp x k) := by
    intro x h1 h2 h3
    refine ⟨?_, ?_, Nat.pow_pos h3⟩
    · have := bl_pow_le (o := x.1.natAbs) h1 hk (by decide)
      show bl (x.1 ^ k).natAbs ≤ 450
      rw [Int.natAbs_pow]; omega
    · have := bl_pow_le (o := x.2) h2 hk (by decide)
      show bl (x.2 ^ k) ≤ 450
      omega
  have Ba := B a na da pa
  have Bb := B b nb db pb
  have B0 : Bd (0, 1) := ⟨by decide, by decide, by decide⟩
  have t3 := T_outwards P (n := n) (p := p) (x := pwp a k) (xs := [pwp b k]) Ba (by intro w hw; simp only [List.mem_cons, List.not_mem_nil, or_false] at hw; rcases hw with rfl; exact Bb) (by simp) hp
  have t4 := T_outwards P (n := n) (p := p) (x := pwp a k) (xs := [pwp b k, (0, 1)]) Ba (by intro w hw; simp only [List.mem_cons, List.not_mem_nil, or_false] at hw; rcases hw with rfl | rfl; exact Bb; exact B0) (by simp) hp
  have m1 : IntMulOk a.1 b.1 := mulB (by omega) (by omega)
  have hmod : (k : Int).fmod 2 = ((k % 2 : Nat) : Int) := fmod_nat k 2
  have hone : seqOf (.tup [pr a, pr b]) [a, b] := rfl
  refine P.t_law_powers3 (n + 3) _ _ _ _ ?_
  unfold c_law_powers
  repeat' walk_at "bw1"
  refine r_comp ?_
  repeat' walk_at "bw1"
  refine r_seqOf hone ⟨flats_pr _, by simp, ?_⟩
  refine r_b1 ?_
  repeat' walk_at "bw1"
  refine ⟨_, t1, rfl, ?_⟩
  refine r_b1 ?_
  repeat' walk_at "bw1"
  refine ⟨_, t2, rfl, ?_⟩
  refine r_b0 ?_
  repeat' walk_at "bw1"
  · rw [if_pos ⟨by omega, by omega, by assumption⟩]
    refine b_ladd (by simp) ?_
    repeat' walk_at "bw1"
    exact ⟨_, t4, rfl⟩
  · rw [if_neg (fun h => absurd h.2.2 (by assumption))]
    refine b_ladd (by simp) ?_
    repeat' walk_at "bw1"
    exact ⟨_, t3, rfl⟩
  · rw [if_neg (fun h => by have := h.2.1; omega)]
    refine b_ladd (by simp) ?_
    repeat' walk_at "bw1"
    exact ⟨_, t3, rfl⟩
  · rw [if_neg (fun h => by have := h.1; omega)]
    refine b_ladd (by simp) ?_
    repeat' walk_at "bw1"
    exact ⟨_, t3, rfl⟩
end
end
section
open PySem PySem.W PySem.Calls PyProof.Rows PySem.SeqAt
theorem pmin_is {x : Pr} {xs : List Pr} {w : Int} {s : Nat} (hx : 0 < x.2) (hxs : ∀ v ∈ xs, 0 < v.2) (hm : ∃ v ∈ x :: xs, Is v w s) (hle : ∀ v ∈ x :: xs, w * v.2 ≤ v.1 * (2 ^ s : Nat)) : Is (pmin x xs) w s := by
  obtain ⟨m, le⟩ := pmin_spec hx hxs
  obtain ⟨v, hv, e⟩ := hm
  have hv0 : 0 < v.2 := by rcases List.mem_cons.mp hv with q | q; rw [q]; exact hx; exact hxs _ q
  exact Int.le_antisymm (cross_trans (x := (pmin x xs).2) (y := v.2) (z := 2 ^ s) hv0 (le v hv) (Int.le_of_eq e)) (hle _ m)
theorem pmax_is {x : Pr} {xs : List Pr} {w : Int} {s : Nat} (hx : 0 < x.2) (hxs : ∀ v ∈ xs, 0 < v.2) (hm : ∃ v ∈ x :: xs, Is v w s) (hle : ∀ v ∈ x :: xs, v.1 * (2 ^ s : Nat) ≤ w * v.2) : Is (pmax x xs) w s := by
  obtain ⟨m, le⟩ := pmax_spec hx hxs
  obtain ⟨v, hv, e⟩ := hm
  have hv0 : 0 < v.2 := by rcases List.mem_cons.mp hv with q | q; rw [q]; exact hx; exact hxs _ q
  exact Int.le_antisymm (hle _ m) (cross_trans (x := 2 ^ s) (y := v.2) (z := (pmax x xs).2) hv0 (Int.le_of_eq e.symm) (le v hv))
/-- comparing through the values -/
theorem is_le {v : Pr} {w w' : Int} {s : Nat} (h : Is v w' s) (hw : w ≤ w') : w * v.2 ≤ v.1 * (2 ^ s : Nat) := by
  rw [h]; exact Int.mul_le_mul_of_nonneg_right hw (Int.natCast_nonneg _)
theorem is_ge {v : Pr} {w w' : Int} {s : Nat} (h : Is v w' s) (hw : w' ≤ w) : v.1 * (2 ^ s : Nat) ≤ w * v.2 := by
  rw [h]; exact Int.mul_le_mul_of_nonneg_right hw (Int.natCast_nonneg _)
theorem Is.pow {x : Pr} {w : Int} {s : Nat} (h : Is x w s) (k : Nat) : Is (pwp x k) (w ^ k) (s * k) := by
  unfold Is pwp at *
  have e : ((2 ^ (s * k) : Nat) : Int) = ((2 ^ s : Nat) : Int) ^ k := by rw [Nat.pow_mul]; push_cast; rfl
  have e2 : ((x.2 ^ k : Nat) : Int) = (x.2 : Int) ^ k := by push_cast; rfl
  simp only [e, e2]
  rw [← Int.mul_pow, h, Int.mul_pow]
theorem Is.zero {s : Nat} : Is (0, 1) 0 s := by unfold Is; simp
theorem Is.times {x y : Pr} {w w' : Int} {s t : Nat} (h : Is x w s) (h' : Is y w' t) : Is (x.1 * y.1, x.2 * y.2) (w * w') (s + t) := by
  unfold Is at *
  simp only [Nat.pow_add, Int.natCast_mul]
  calc x.1 * y.1 * (((2 ^ s : Nat) : Int) * ((2 ^ t : Nat) : Int)) = (x.1 * ((2 ^ s : Nat) : Int)) * (y.1 * ((2 ^ t : Nat) : Int)) := by ac_rfl
    _ = w * x.2 * (w' * y.2) := by rw [h, h']
    _ = w * w' * ((x.2 : Int) * y.2) := by ac_rfl
end
section
open PySem PySem.W PySem.Calls PyProof.Rows PySem.SeqAt
section
variable {c : Cx}
theorem Is.pos_of {x : Pr} {w : Int} {s : Nat} (h : Is x w s) (hx : 0 < x.2) : (x.1 < 0 ↔ w < 0) := (h.sgn hx).2.1
set_option maxHeartbeats 1000000 in
theorem T_powers_neg (P : Prog c) {n p k s : Nat} {a b : Pr} {α β : Int} (hk0 : 1 ≤ k) (hk : k ≤ 3) (hs : s ≤ 12) (hp1 : 1 ≤ p) (hp : p ≤ 300) (na : bl a.1.natAbs ≤ 30) (nb : bl b.1.natAbs ≤ 30) (da : bl a.2 ≤ 14) (db : bl b.2 ≤ 14) (pa : 0 < a.2) (pb : 0 < b.2)
    (ha : Is a α s) (hb : Is b β s) (hab : α ≤ β) :
    Tell c (n + 6) "_law_powers" [.tup [pr a, pr b], .int (-(k : Int)), .int p] (divD p 1 1 (pwLH k α β).1 (pwLH k α β).2 (((s * k : Nat) : Int) - (0 : Nat))) := by
  have f1 := P.is_law_power
  have f2 := P.is_law_quotient
  have f3 := P.is_law_sorted
  have ba : Bs a := ⟨by omega, by omega, pa⟩
  have bb : Bs b := ⟨by omega, by omega, pb⟩
  have t1 := T_power P (n := n + 4) ba (show k ≤ 6 by omega)
  have t2 := T_power P (n := n + 4) bb (show k ≤ 6 by omega)
  have B : ∀ x : Pr, bl x.1.natAbs ≤ 30 → bl x.2 ≤ 14 → 0 < x.2 → Bs (pwp x k) := by
    intro x h1 h2 h3
    refine ⟨?_, ?_, Nat.pow_pos h3⟩
    · have := bl_pow_le (o := x.1.natAbs) h1 hk (by decide)
      show bl (x.1 ^ k).natAbs ≤ 150
      rw [Int.natAbs_pow]; omega
    · have := bl_pow_le (o := x.2) h2 hk (by decide)
      show bl (x.2 ^ k) ≤ 100
      omega
  have Ba := B a na da pa
  have Bb := B b nb db pb
  have B0 : Bs (0, 1) := ⟨by decide, by decide, by decide⟩
  have Ia := ha.pow k
  have Ib := hb.pow k
  have sa := ha.sgn pa
  have sb := hb.sgn pb
  have w3 := prod_neg a.1 b.1
  have m1 : IntMulOk a.1 b.1 := mulB (by omega) (by omega)
  have hmod : (-(k : Int)).fmod 2 = ((k % 2 : Nat) : Int) := by rw [fmodp _ (by decide)]; omega
  have hone : seqOf (.tup [pr a, pr b]) [a, b] := rfl
  have h11 : seqOf (.list [pr (1, 1), pr (1, 1)]) [(1, 1), (1, 1)] := rfl
  have I1 : Is (1, 1) 1 0 := by unfold Is; simp
  have B1 : Bs (1, 1) := ⟨by decide, by decide, by decide⟩
  have px : ∀ v ∈ [pwp b k], 0 < v.2 := by intro v hv; simp only [List.mem_cons, List.not_mem_nil, or_false] at hv; subst hv; exact Bb.p
  have s1 := T_sorted P (n := n + 3) (x := pwp a k) (xs := [pwp b k]) Ba.bd (by intro v hv; simp only [List.mem_cons, List.not_mem_nil, or_false] at hv; subst hv; exact Bb.bd) (by simp)
  have BM : Bs (pmax (pwp a k) [pwp b k]) := by
    obtain ⟨m, _⟩ := pmax_spec (a := pwp a k) (xs := [pwp b k]) Ba.p px
    simp only [List.mem_cons, List.not_mem_nil, or_false] at m
    rcases m with q | q <;> rw [q] <;> assumption
  have Bm : Bs (pmin (pwp a k) [pwp b k]) := by
    obtain ⟨m, _⟩ := pmin_spec (a := pwp a k) (xs := [pwp b k]) Ba.p px
    simp only [List.mem_cons, List.not_mem_nil, or_false] at m
    rcases m with q | q <;> rw [q] <;> assumption
  have mem2 : ∀ {Pp : Pr → Prop}, Pp (pwp a k) → Pp (pwp b k) → ∀ v ∈ pwp a k :: [pwp b k], Pp v := by
    intro Pp h1 h2 v hv; simp only [List.mem_cons, List.not_mem_nil, or_false] at hv; rcases hv with rfl | rfl <;> assumption
  have isMax : ∀ w : Int, (w = α ^ k ∨ w = β ^ k) → α ^ k ≤ w → β ^ k ≤ w → Is (pmax (pwp a k) [pwp b k]) w (s * k) := fun w hw h1 h2 =>
    pmax_is Ba.p px (by rcases hw with rfl | rfl; exact ⟨_, by simp, Ia⟩; exact ⟨_, by simp, Ib⟩) (mem2 (is_ge Ia h1) (is_ge Ib h2))
  have isMin : ∀ w : Int, (w = α ^ k ∨ w = β ^ k) → w ≤ α ^ k → w ≤ β ^ k → Is (pmin (pwp a k) [pwp b k]) w (s * k) := fun w hw h1 h2 =>
    pmin_is Ba.p px (by rcases hw with rfl | rfl; exact ⟨_, by simp, Ia⟩; exact ⟨_, by simp, Ib⟩) (mem2 (is_le Ia h1) (is_le Ib h2))
  have head : ∀ K : Prop, True := fun _ => trivial
  by_cases hst : k % 2 = 0 ∧ α < 0 ∧ 0 < β
  · have hne := neg_pow_even α (k / 2)
    rw [show 2 * (k / 2) = k by omega] at hne
    have hL : pwLH k α β = (0, if β ≤ -α then α ^ k else β ^ k) := by
      unfold pwLH; rw [if_neg (by omega), if_neg (by omega), if_neg (by omega)]
    have IM : Is (pmax (pwp a k) [pwp b k]) (pwLH k α β).2 (s * k) := by
      rw [hL]
      show Is _ (if β ≤ -α then α ^ k else β ^ k) _
      by_cases h : β ≤ -α
      · rw [if_pos h]
        exact isMax _ (.inl rfl) (Int.le_refl _) (by rw [← hne]; exact pow_mono_nn (by omega) h k)
      · rw [if_neg h]
        exact isMax _ (.inr rfl) (by rw [← hne]; exact pow_mono_nn (by omega) (by omega) k) (Int.le_refl _)
    have h0M : 0 ≤ (pwLH k α β).2 := by
      rw [hL]
      show (0 : Int) ≤ if β ≤ -α then α ^ k else β ^ k
      split <;> exact even_nn hst.1
    have s2 := T_sorted P (n := n + 3) (x := (0, 1)) (xs := [pmax (pwp a k) [pwp b k]]) B0.bd (by intro v hv; simp only [List.mem_cons, List.not_mem_nil, or_false] at hv; subst hv; exact BM.bd) (by simp)
    have pM : ∀ v ∈ [pmax (pwp a k) [pwp b k]], 0 < v.2 := by intro v hv; simp only [List.mem_cons, List.not_mem_nil, or_false] at hv; subst hv; exact BM.p
    have Iu : Is (pmin (0, 1) [pmax (pwp a k) [pwp b k]]) 0 (s * k) := pmin_is B0.p pM ⟨_, List.mem_cons_self, Is.zero⟩ (by
      intro v hv; simp only [List.mem_cons, List.not_mem_nil, or_false] at hv; rcases hv with rfl | rfl
      · exact is_le Is.zero (Int.le_refl 0)
      · exact is_le IM h0M)
    have Iv : Is (pmax (0, 1) [pmax (pwp a k) [pwp b k]]) (pwLH k α β).2 (s * k) := pmax_is B0.p pM ⟨_, by simp, IM⟩ (by
      intro v hv; simp only [List.mem_cons, List.not_mem_nil, or_false] at hv; rcases hv with rfl | rfl
      · exact is_ge Is.zero h0M
      · exact is_ge IM (Int.le_refl _))
    have Bu : Bs (pmin (0, 1) [pmax (pwp a k) [pwp b k]]) := by
      obtain ⟨m, _⟩ := pmin_spec (a := (0, 1)) (xs := [pmax (pwp a k) [pwp b k]]) B0.p pM
      simp only [List.mem_cons, List.not_mem_nil, or_false] at m
      rcases m with q | q <;> rw [q] <;> assumption
    have Bv : Bs (pmax (0, 1) [pmax (pwp a k) [pwp b k]]) := by
      obtain ⟨m, _⟩ := pmax_spec (a := (0, 1)) (xs := [pmax (pwp a k) [pwp b k]]) B0.p pM
      simp only [List.mem_cons, List.not_mem_nil, or_false] at m
      rcases m with q | q <;> rw [q] <;> assumption
    have tq := T_quot P (n := n) (p := p) (s₁ := 0) (s₂ := s * k) h11 hp1 hp (by decide) (by have := Nat.mul_le_mul hs hk; omega) I1 I1 Iu Iv B1 B1 Bu Bv (Int.le_refl 1) h0M
    have hneg : a.1 * b.1 < 0 := by omega
    rw [show (pwLH k α β).1 = 0 by rw [hL]]
    refine P.t_law_powers3 (n + 5) _ _ _ _ ?_
    unfold c_law_powers
    clear isMax isMin mem2 hL h0M IM Iu Iv Bu Bv B
    repeat' walk_at "bw1"
    refine r_comp ?_
    repeat' walk_at "bw1"
    refine r_seqOf hone ⟨flats_pr _, by simp, ?_⟩
    refine r_b1 ?_
    repeat' walk_at "bw1"
    rw [Int.neg_neg]
    refine ⟨_, t1, rfl, ?_⟩
    refine r_b1 ?_
    repeat' walk_at "bw1"
    rw [Int.neg_neg]
    refine ⟨_, t2, rfl, ?_⟩
    refine r_b0 ?_
    repeat' walk_at "bw1"
    refine ⟨_, s1, ?_⟩
    repeat' walk_at "bw1"
    refine ⟨_, s2, ?_⟩
    repeat' walk_at "bw1"
    exact ⟨_, tq, rfl⟩
  · have hL : pwLH k α β = (if k % 2 = 1 ∨ 0 ≤ α then (α ^ k, β ^ k) else (β ^ k, α ^ k)) := by
      unfold pwLH
      (repeat' split) <;> first | rfl | (exfalso; omega)
    have Imm : Is (pmin (pwp a k) [pwp b k]) (pwLH k α β).1 (s * k) ∧ Is (pmax (pwp a k) [pwp b k]) (pwLH k α β).2 (s * k) := by
      rw [hL]
      by_cases h : k % 2 = 1 ∨ 0 ≤ α
      · rw [if_pos h]
        have hle : α ^ k ≤ β ^ k := by
          rcases h with h | h
          · exact odd_mono h hab
          · exact pow_mono_nn h hab k
        exact ⟨isMin _ (.inl rfl) (Int.le_refl _) hle, isMax _ (.inr rfl) hle (Int.le_refl _)⟩
      · rw [if_neg h]
        have hle : β ^ k ≤ α ^ k := even_mono_np (by omega) (by omega) hab
        exact ⟨isMin _ (.inr rfl) hle (Int.le_refl _), isMax _ (.inl rfl) (Int.le_refl _) hle⟩
    have tq := T_quot P (n := n) (p := p) (s₁ := 0) (s₂ := s * k) h11 hp1 hp (by decide) (by have := Nat.mul_le_mul hs hk; omega) I1 I1 Imm.1 Imm.2 B1 B1 Bm BM (Int.le_refl 1) (pwLH_le hab)
    have hneg : k % 2 = 0 → ¬ a.1 * b.1 < 0 := by omega
    refine P.t_law_powers3 (n + 5) _ _ _ _ ?_
    unfold c_law_powers
    clear isMax isMin mem2 hL Imm B
    repeat' walk_at "bw1"
    refine r_comp ?_
    repeat' walk_at "bw1"
    refine r_seqOf hone ⟨flats_pr _, by simp, ?_⟩
    refine r_b1 ?_
    repeat' walk_at "bw1"
    rw [Int.neg_neg]
    refine ⟨_, t1, rfl, ?_⟩
    refine r_b1 ?_
    repeat' walk_at "bw1"
    rw [Int.neg_neg]
    refine ⟨_, t2, rfl, ?_⟩
    refine r_b0 ?_
    repeat' walk_at "bw1"
    all_goals try (exfalso; omega)
    all_goals refine ⟨_, s1, ?_⟩
    all_goals repeat' walk_at "bw1"
    all_goals exact ⟨_, tq, rfl⟩
end
end
section
open PySem PySem.W PySem.Calls PyProof.Rows PySem.SeqAt
/-- what a drawn number is -/
structure Nm (x : Pr) (α : Int) : Prop where
  is : Is x α 12
  few : Few α
  lt : α.natAbs < 2 ^ 36
  n : bl x.1.natAbs ≤ 30
  d : bl x.2 ≤ 14
  p : 0 < x.2
  two : P2s x
  fpe : fp x.1 (1 - bl x.2) = fp α (-12)
theorem Num.nm {x : Pr} (h : Num x) : ∃ α, Nm x α := by
  obtain ⟨v, i, k, hv, hi, hk, rfl⟩ := h.ex
  have e0 : ((v * 2 ^ i).natAbs) = v.natAbs * 2 ^ i := by rw [Int.natAbs_mul, pow_cast]; rfl
  have hi2 : (2 : Nat) ^ i ≤ 2 ^ 12 := Nat.pow_le_pow_right (by decide) hi
  have hk2 : (2 : Nat) ^ (12 - k) ≤ 2 ^ 12 := Nat.pow_le_pow_right (by decide) (by omega)
  have h1 := Nat.mul_le_mul hv hi2
  refine ⟨v * 2 ^ i * 2 ^ (12 - k), ?_, ⟨v, i + (12 - k), by rw [Int.mul_assoc, ← Int.pow_add], by omega⟩, ?_, ?_, ?_, pow_pos' k, ⟨k, rfl⟩, ?_⟩
  · unfold Is
    show v * 2 ^ i * ((2 ^ 12 : Nat) : Int) = v * 2 ^ i * 2 ^ (12 - k) * ((2 ^ k : Nat) : Int)
    rw [← pow_cast, ← pow_cast, Int.mul_assoc (v * 2 ^ i), ← Int.pow_add, show 12 - k + k = 12 by omega]
  · rw [Int.natAbs_mul, e0]
    have e1 : ((2 : Int) ^ (12 - k)).natAbs = 2 ^ (12 - k) := by rw [pow_cast]; rfl
    rw [e1]
    have h2 := Nat.mul_le_mul h1 hk2
    have e2 : 2047 * 2 ^ 12 * 2 ^ 12 < 2 ^ 36 := by decide
    omega
  · show bl (v * 2 ^ i).natAbs ≤ 30
    rw [e0]
    refine Nat.le_trans (bl_mono h1) (by decide)
  · show bl (2 ^ k) ≤ 14
    rw [bl_pow]; omega
  · show fp (v * 2 ^ i) (1 - (bl (2 ^ k) : Int)) = fp (v * 2 ^ i * 2 ^ (12 - k)) (-12)
    rw [bl_pow, fp_shift _ (-12)]
    congr 1
    omega
theorem Nm.bs {x : Pr} {α : Int} (h : Nm x α) : Bs x := ⟨Nat.le_trans h.n (by decide), Nat.le_trans h.d (by decide), h.p⟩
theorem Is.plus {a u : Pr} {α γ sd : Int} (h : Is a α 12) (h' : Is u γ 12) : Is (a.1 * u.2 + sd * u.1 * a.2, a.2 * u.2) (α + sd * γ) 12 := by
  unfold Is at *
  show (a.1 * u.2 + sd * u.1 * a.2) * ((2 ^ 12 : Nat) : Int) = (α + sd * γ) * ((a.2 * u.2 : Nat) : Int)
  rw [Int.add_mul, Int.add_mul, Int.natCast_mul]
  generalize ((2 ^ 12 : Nat) : Int) = M at *
  calc a.1 * u.2 * M + sd * u.1 * a.2 * M = (a.1 * M) * u.2 + sd * (u.1 * M) * a.2 := by congr 1 <;> ac_rfl
    _ = (α * a.2) * u.2 + sd * (γ * u.2) * a.2 := by rw [h, h']
    _ = α * ((a.2 : Int) * u.2) + sd * γ * ((a.2 : Int) * u.2) := by congr 1 <;> ac_rfl
end
section
open PySem PySem.W PySem.Calls PyProof.Rows PySem.SeqAt
theorem P2s.pos {x : Pr} (h : P2s x) : 0 < x.2 := by obtain ⟨k, hk⟩ := h; rw [hk]; exact pow_pos' k
theorem P2s.mul {x y : Pr} {w : Int} (h : P2s x) (h' : P2s y) : P2s (w, x.2 * y.2) := by
  obtain ⟨k, hk⟩ := h; obtain ⟨j, hj⟩ := h'
  exact ⟨k + j, by rw [hk, hj, Nat.pow_add]⟩
theorem P2s.pow {x : Pr} (h : P2s x) (n : Nat) : P2s (pwp x n) := by
  obtain ⟨k, hk⟩ := h
  exact ⟨k * n, by show x.2 ^ n = _; rw [hk, Nat.pow_mul]⟩
theorem P2s.one : P2s (0, 1) := ⟨0, rfl⟩
theorem qz_gen {p s : Nat} {x : Pr} {xs : List Pr} {w w' : Int} (hs : s ≤ 400) (h2 : ∀ v ∈ x :: xs, P2s v)
    (hm : ∃ v ∈ x :: xs, Is v w s) (hm' : ∃ v ∈ x :: xs, Is v w' s) (hle : ∀ v ∈ x :: xs, ∃ y, Is v y s ∧ w ≤ y ∧ y ≤ w') : qz p x xs = ZZ p w w' (-(s : Int)) := by
  have hx := (h2 x List.mem_cons_self).pos
  have hxs : ∀ v ∈ xs, 0 < v.2 := fun v hv => (h2 v (List.mem_cons_of_mem _ hv)).pos
  have h1 := lo_eq (p := p) hs hx hxs (fun _ => h2) hm (fun v hv => by obtain ⟨y, hy, a, b⟩ := hle v hv; exact is_le hy a)
  have h3 := hi_eq (p := p) hs hx hxs (fun _ => h2) hm' (fun v hv => by obtain ⟨y, hy, a, b⟩ := hle v hv; exact is_ge hy b)
  unfold qz ZZ
  rw [h1, h3]
theorem qz_two {p s : Nat} {x y : Pr} {a b w w' : Int} (hs : s ≤ 400) (ix : Is x a s) (iy : Is y b s) (px : P2s x) (py : P2s y)
    (h1 : w ≤ a ∧ w ≤ b ∧ (w = a ∨ w = b)) (h2 : a ≤ w' ∧ b ≤ w' ∧ (w' = a ∨ w' = b)) : qz p x [y] = ZZ p w w' (-(s : Int)) := by
  refine qz_gen hs ?_ ?_ ?_ ?_
  · intro v hv; simp only [List.mem_cons, List.not_mem_nil, or_false] at hv; rcases hv with rfl | rfl <;> assumption
  · rcases h1.2.2 with rfl | rfl
    · exact ⟨x, by simp, ix⟩
    · exact ⟨y, by simp, iy⟩
  · rcases h2.2.2 with rfl | rfl
    · exact ⟨x, by simp, ix⟩
    · exact ⟨y, by simp, iy⟩
  · intro v hv; simp only [List.mem_cons, List.not_mem_nil, or_false] at hv
    rcases hv with rfl | rfl
    · exact ⟨a, ix, h1.1, h2.1⟩
    · exact ⟨b, iy, h1.2.1, h2.2.1⟩
theorem qz_three {p s : Nat} {x y z : Pr} {a b c w w' : Int} (hs : s ≤ 400) (ix : Is x a s) (iy : Is y b s) (iz : Is z c s) (px : P2s x) (py : P2s y) (pz : P2s z)
    (h1 : w ≤ a ∧ w ≤ b ∧ w ≤ c ∧ (w = a ∨ w = b ∨ w = c)) (h2 : a ≤ w' ∧ b ≤ w' ∧ c ≤ w' ∧ (w' = a ∨ w' = b ∨ w' = c)) : qz p x [y, z] = ZZ p w w' (-(s : Int)) := by
  refine qz_gen hs ?_ ?_ ?_ ?_
  · intro v hv; simp only [List.mem_cons, List.not_mem_nil, or_false] at hv; rcases hv with rfl | rfl | rfl <;> assumption
  · rcases h1.2.2.2 with rfl | rfl | rfl
    · exact ⟨x, by simp, ix⟩
    · exact ⟨y, by simp, iy⟩
    · exact ⟨z, by simp, iz⟩
  · rcases h2.2.2.2 with rfl | rfl | rfl
    · exact ⟨x, by simp, ix⟩
    · exact ⟨y, by simp, iy⟩
    · exact ⟨z, by simp, iz⟩
  · intro v hv; simp only [List.mem_cons, List.not_mem_nil, or_false] at hv
    rcases hv with rfl | rfl | rfl
    · exact ⟨a, ix, h1.1, h2.1⟩
    · exact ⟨b, iy, h1.2.1, h2.2.1⟩
    · exact ⟨c, iz, h1.2.2.1, h2.2.2.1⟩
theorem qz_four {p s : Nat} {x y z t : Pr} {a b c d w w' : Int} (hs : s ≤ 400) (ix : Is x a s) (iy : Is y b s) (iz : Is z c s) (it : Is t d s) (px : P2s x) (py : P2s y) (pz : P2s z) (pt : P2s t)
    (h1 : w ≤ a ∧ w ≤ b ∧ w ≤ c ∧ w ≤ d ∧ (w = a ∨ w = b ∨ w = c ∨ w = d)) (h2 : a ≤ w' ∧ b ≤ w' ∧ c ≤ w' ∧ d ≤ w' ∧ (w' = a ∨ w' = b ∨ w' = c ∨ w' = d)) : qz p x [y, z, t] = ZZ p w w' (-(s : Int)) := by
  refine qz_gen hs ?_ ?_ ?_ ?_
  · intro v hv; simp only [List.mem_cons, List.not_mem_nil, or_false] at hv; rcases hv with rfl | rfl | rfl | rfl <;> assumption
  · rcases h1.2.2.2.2 with rfl | rfl | rfl | rfl
    · exact ⟨x, by simp, ix⟩
    · exact ⟨y, by simp, iy⟩
    · exact ⟨z, by simp, iz⟩
    · exact ⟨t, by simp, it⟩
  · rcases h2.2.2.2.2 with rfl | rfl | rfl | rfl
    · exact ⟨x, by simp, ix⟩
    · exact ⟨y, by simp, iy⟩
    · exact ⟨z, by simp, iz⟩
    · exact ⟨t, by simp, it⟩
  · intro v hv; simp only [List.mem_cons, List.not_mem_nil, or_false] at hv
    rcases hv with rfl | rfl | rfl | rfl
    · exact ⟨a, ix, h1.1, h2.1⟩
    · exact ⟨b, iy, h1.2.1, h2.2.1⟩
    · exact ⟨c, iz, h1.2.2.1, h2.2.2.1⟩
    · exact ⟨d, it, h1.2.2.2.1, h2.2.2.2.1⟩
theorem mulLH_spec {α β γ δ : Int} (h : α ≤ β) (h' : γ ≤ δ) :
    ((mulLH α β γ δ).1 ≤ α * γ ∧ (mulLH α β γ δ).1 ≤ α * δ ∧ (mulLH α β γ δ).1 ≤ β * γ ∧ (mulLH α β γ δ).1 ≤ β * δ ∧ ((mulLH α β γ δ).1 = α * γ ∨ (mulLH α β γ δ).1 = α * δ ∨ (mulLH α β γ δ).1 = β * γ ∨ (mulLH α β γ δ).1 = β * δ)) ∧
    (α * γ ≤ (mulLH α β γ δ).2 ∧ α * δ ≤ (mulLH α β γ δ).2 ∧ β * γ ≤ (mulLH α β γ δ).2 ∧ β * δ ≤ (mulLH α β γ δ).2 ∧ ((mulLH α β γ δ).2 = α * γ ∨ (mulLH α β γ δ).2 = α * δ ∨ (mulLH α β γ δ).2 = β * γ ∨ (mulLH α β γ δ).2 = β * δ)) := by
  have c1 : 0 ≤ γ → α * γ ≤ β * γ := fun q => Int.mul_le_mul_of_nonneg_right h q
  have c2 : γ ≤ 0 → β * γ ≤ α * γ := fun q => Int.mul_le_mul_of_nonpos_right h q
  have c3 : 0 ≤ δ → α * δ ≤ β * δ := fun q => Int.mul_le_mul_of_nonneg_right h q
  have c4 : δ ≤ 0 → β * δ ≤ α * δ := fun q => Int.mul_le_mul_of_nonpos_right h q
  have c5 : 0 ≤ α → α * γ ≤ α * δ := fun q => Int.mul_le_mul_of_nonneg_left h' q
  have c6 : α ≤ 0 → α * δ ≤ α * γ := fun q => Int.mul_le_mul_of_nonpos_left q h'
  have c7 : 0 ≤ β → β * γ ≤ β * δ := fun q => Int.mul_le_mul_of_nonneg_left h' q
  have c8 : β ≤ 0 → β * δ ≤ β * γ := fun q => Int.mul_le_mul_of_nonpos_left q h'
  unfold mulLH
  by_cases h1 : α = 0 ∧ β = 0
  · rw [if_pos h1]; obtain ⟨rfl, rfl⟩ := h1; simp
  rw [if_neg h1]
  by_cases h2 : γ = 0 ∧ δ = 0
  · rw [if_pos h2]; obtain ⟨rfl, rfl⟩ := h2; simp
  rw [if_neg h2]
  simp only [lmin, lmax, List.foldl]
  generalize α * γ = A at *
  generalize α * δ = B at *
  generalize β * γ = C at *
  generalize β * δ = D at *
  (repeat' split) <;> dsimp only <;> omega
theorem div_pts {p : Nat} {α β γ δ : Int} {e : Int} (hp : p ≤ 300) (he : -1000 ≤ e) (hc : γ.natAbs < 2 ^ 200) (hd : δ.natAbs < 2 ^ 200) (hst : γ ≤ δ) : ∃ l, divD p α β γ δ e = .tup l ∧ D.pts l = true := by
  have hb : ∀ up x y, y ≠ 0 → y.natAbs < 2 ^ 200 → D.ptn 3 (Q up p x y e) = true := by
    intro up x y h0 h1
    obtain ⟨l, e1, e2, _⟩ := Q_nn (up := up) (p := p) (x := x) (e := e) hp h0 h1 he
    obtain ⟨w, f, e3⟩ := Z_fp (up := up) (p := p) (N := if y < 0 then -x else x) (y := y.natAbs) hp (by omega) (Nat.le_trans (bl_le h1) (by decide)) he
    show D.ptn 3 (Z up p (if y < 0 then -x else x) y.natAbs e) = true
    rw [e3]; exact fp_ptn
  have i1 : D.ptn 3 fni = true := by decide
  have i2 : D.ptn 3 fpi = true := by decide
  have i3 : D.ptn 3 fz = true := by decide
  have two : ∀ {x y : D}, D.ptn 3 x = true → D.ptn 3 y = true → D.pts [x, y] = true := by
    intro x y h1 h2; simp [D.pts, h1, h2]
  unfold divD div0
  (repeat' split) <;> refine ⟨_, rfl, two ?_ ?_⟩ <;> first | assumption | (refine hb _ _ _ (by omega) (by omega))
theorem ZZ_pts {p : Nat} {x y e : Int} (hp : p ≤ 300) (he : -1000 ≤ e) : ∃ l, ZZ p x y e = .tup l ∧ D.pts l = true := by
  obtain ⟨w, f, e1⟩ := Z_fp1 (up := false) (p := p) (N := x) (e := e) hp (by omega)
  obtain ⟨w', f', e2⟩ := Z_fp1 (up := true) (p := p) (N := y) (e := e) hp (by omega)
  refine ⟨_, rfl, ?_⟩
  rw [e1, e2]
  simp [D.pts, fp_ptn]
theorem iv_pts {x y e : Int} : ∃ l, iv x y e = .tup l ∧ D.pts l = true := ⟨_, rfl, by simp [D.pts, fp_ptn]⟩
/-- the checks, one by one -/
theorem ck_add {p : Nat} {a b u v : Pr} {α β γ δ : Int} (ha : Nm a α) (hb : Nm b β) (hu : Nm u γ) (hv : Nm v δ) (h : α ≤ β) (h' : γ ≤ δ) :
    qz p (a.1 * u.2 + 1 * u.1 * a.2, a.2 * u.2) [(b.1 * v.2 + 1 * v.1 * b.2, b.2 * v.2)] = ZZ p (α + γ) (β + δ) (-12) :=
  qz_two (s := 12) (by decide) (ha.is.plus hu.is) (hb.is.plus hv.is) (ha.two.mul hu.two) (hb.two.mul hv.two) (by omega) (by omega)
theorem ck_sub {p : Nat} {a b u v : Pr} {α β γ δ : Int} (ha : Nm a α) (hb : Nm b β) (hu : Nm u γ) (hv : Nm v δ) (h : α ≤ β) (h' : γ ≤ δ) :
    qz p (a.1 * v.2 + -1 * v.1 * a.2, a.2 * v.2) [(b.1 * u.2 + -1 * u.1 * b.2, b.2 * u.2)] = ZZ p (α - δ) (β - γ) (-12) :=
  qz_two (s := 12) (by decide) (ha.is.plus hv.is) (hb.is.plus hu.is) (ha.two.mul hv.two) (hb.two.mul hu.two) (by omega) (by omega)
theorem ck_mul {p : Nat} {a b u v : Pr} {α β γ δ : Int} (ha : Nm a α) (hb : Nm b β) (hu : Nm u γ) (hv : Nm v δ) (h : α ≤ β) (h' : γ ≤ δ) :
    qz p (a.1 * u.1, a.2 * u.2) [(a.1 * v.1, a.2 * v.2), (b.1 * u.1, b.2 * u.2), (b.1 * v.1, b.2 * v.2)] = ZZ p (mulLH α β γ δ).1 (mulLH α β γ δ).2 (-12 + -12) :=
  qz_four (s := 12 + 12) (by decide) (ha.is.times hu.is) (ha.is.times hv.is) (hb.is.times hu.is) (hb.is.times hv.is) (ha.two.mul hu.two) (ha.two.mul hv.two) (hb.two.mul hu.two) (hb.two.mul hv.two)
    (mulLH_spec h h').1 (mulLH_spec h h').2
theorem Is.neg {x : Pr} {w : Int} {s : Nat} (h : Is x w s) : Is (-x.1, x.2) (-w) s := by
  unfold Is at *; show -x.1 * _ = -w * _; rw [Int.neg_mul, h, Int.neg_mul]
theorem ck_neg {p : Nat} {u v : Pr} {γ δ : Int} (hu : Nm u γ) (hv : Nm v δ) (h' : γ ≤ δ) : qz p (-u.1, u.2) [(-v.1, v.2)] = ZZ p (-δ) (-γ) (-12) :=
  qz_two (s := 12) (by decide) hu.is.neg hv.is.neg hu.two hv.two (by omega) (by omega)
theorem Is.abs {x : Pr} {w : Int} {s : Nat} (h : Is x w s) (hx : 0 < x.2) : Is ((if x.1 < 0 then -x.1 else x.1), x.2) (if w < 0 then -w else w) s := by
  have := (h.sgn hx).2.1
  by_cases h0 : x.1 < 0
  · rw [if_pos h0, if_pos (this.mp h0)]; exact h.neg
  · rw [if_neg h0, if_neg (fun q => h0 (this.mpr q))]; exact h
theorem P2s.abs {x : Pr} {w : Int} (h : P2s x) : P2s (w, x.2) := h
theorem ck_abs1 {p : Nat} {a b : Pr} {α β : Int} (ha : Nm a α) (hb : Nm b β) (h : α ≤ β) (hs : a.1 * b.1 < 0) :
    qz p ((if a.1 < 0 then -a.1 else a.1), a.2) [((if b.1 < 0 then -b.1 else b.1), b.2), (0, 1)] = ZZ p (absLo α β) (absHi α β) (-12) := by
  have s1 := (ha.is.sgn ha.p); have s2 := (hb.is.sgn hb.p)
  have w := prod_neg a.1 b.1
  refine qz_three (s := 12) (by decide) (ha.is.abs ha.p) (hb.is.abs hb.p) Is.zero ha.two hb.two P2s.one ?_ ?_
  · unfold absLo; (repeat' split) <;> omega
  · unfold absHi; (repeat' split) <;> omega
theorem ck_abs2 {p : Nat} {a b : Pr} {α β : Int} (ha : Nm a α) (hb : Nm b β) (h : α ≤ β) (hs : ¬ a.1 * b.1 < 0) :
    qz p ((if a.1 < 0 then -a.1 else a.1), a.2) [((if b.1 < 0 then -b.1 else b.1), b.2)] = ZZ p (absLo α β) (absHi α β) (-12) := by
  have s1 := (ha.is.sgn ha.p); have s2 := (hb.is.sgn hb.p)
  have w := prod_neg a.1 b.1
  refine qz_two (s := 12) (by decide) (ha.is.abs ha.p) (hb.is.abs hb.p) ha.two hb.two ?_ ?_
  · unfold absLo; (repeat' split) <;> omega
  · unfold absHi; (repeat' split) <;> omega
theorem ck_pow {p k : Nat} {a b : Pr} {α β : Int} (hk0 : 1 ≤ k) (hk : k ≤ 6) (ha : Nm a α) (hb : Nm b β) (h : α ≤ β) :
    (if k % 2 = 0 ∧ 0 < k ∧ a.1 * b.1 < 0 then qz p (pwp a k) [pwp b k, (0, 1)] else qz p (pwp a k) [pwp b k]) = ZZ p (powLH k α β).1 (powLH k α β).2 (-12 * (k : Int)) := by
  have s1 := (ha.is.sgn ha.p); have s2 := (hb.is.sgn hb.p)
  have w := prod_neg a.1 b.1
  have hs : 12 * k ≤ 400 := by omega
  have he : (-12 * (k : Int)) = -((12 * k : Nat) : Int) := by push_cast; omega
  have Ia := ha.is.pow k
  have Ib := hb.is.pow k
  rw [powLH_eq, he]
  unfold pwLH
  by_cases hodd : k % 2 = 1
  · have m := odd_mono hodd h
    rw [if_neg (by omega), if_pos hodd]
    exact qz_two hs Ia Ib (ha.two.pow k) (hb.two.pow k) (by dsimp only; omega) (by dsimp only; omega)
  · rw [if_neg hodd]
    have hev : k % 2 = 0 := by omega
    by_cases h0 : 0 ≤ α
    · have m := even_mono_nn (k := k) h0 h
      rw [if_neg (by omega), if_pos h0]
      exact qz_two hs Ia Ib (ha.two.pow k) (hb.two.pow k) (by dsimp only; omega) (by dsimp only; omega)
    · rw [if_neg h0]
      by_cases h1 : β ≤ 0
      · have m := even_mono_np hev h1 h
        rw [if_neg (by omega), if_pos h1]
        exact qz_two hs Ia Ib (ha.two.pow k) (hb.two.pow k) (by dsimp only; omega) (by dsimp only; omega)
      · have n1 := even_nn (a := α) hev
        have n2 := even_nn (a := β) hev
        have hne := neg_pow_even α (k / 2)
        rw [show 2 * (k / 2) = k by omega] at hne
        have m1 : β ≤ -α → β ^ k ≤ α ^ k := fun q => by rw [← hne]; exact pow_mono_nn (by omega) q k
        have m2 : ¬ β ≤ -α → α ^ k ≤ β ^ k := fun q => by rw [← hne]; exact pow_mono_nn (by omega) (by omega) k
        rw [if_pos (by omega), if_neg h1]
        refine qz_three hs Ia Ib Is.zero (ha.two.pow k) (hb.two.pow k) P2s.one ?_ ?_
        · dsimp only; omega
        · dsimp only
          split <;> omega
theorem ck_pow0 {p : Nat} {a b : Pr} (hp : 1 ≤ p) (hp2 : p ≤ 300) : qz p (pwp a 0) [pwp b 0] = iv 1 1 0 := by
  have e : ∀ x : Pr, pwp x 0 = (1, 1) := fun x => by unfold pwp; simp
  have z : ∀ up, Z up p 1 1 0 = fp 1 0 := fun up => Z_fits (by decide) hp (by show bl 1 ≤ p; exact hp) (by omega)
  have i1 : Is (1, 1) 1 0 := by unfold Is; simp
  have p1 : P2s (1, 1) := ⟨0, rfl⟩
  rw [e, e, qz_two (s := 0) (a := 1) (b := 1) (w := 1) (w' := 1) (by decide) i1 i1 p1 p1 (by decide) (by decide)]
  show D.tup [Z false p 1 1 0, Z true p 1 1 0] = _
  rw [z, z]
end
section
open PySem PySem.W PySem.Calls PyProof.Rows PySem.SeqAt
abbrev e_add : PE := (.cmp .NotEq (.call "mpi_add" (.cons (.var 5) (.cons (.var 6) (.cons (.var 3) .nil)))) (.call "_law_outwards" (.cons (.comp [none, none, none, some 1, some 2] [1] false (.tup (.cons (.cst (.int 0)) (.cons (.cst (.int 1)) .nil))) (.call "_law_plus" (.cons (.sub (.var 3) (.var 1)) (.cons (.sub (.var 4) (.var 1)) (.cons (.cst (.int 1)) .nil))))) (.cons (.var 3) .nil))))
abbrev e_sub : PE := (.cmp .NotEq (.call "mpi_sub" (.cons (.var 5) (.cons (.var 6) (.cons (.var 3) .nil)))) (.call "_law_outwards" (.cons (.comp [none, none, none, some 1, some 2] [1] false (.tup (.cons (.cst (.int 0)) (.cons (.cst (.int 1)) .nil))) (.call "_law_plus" (.cons (.sub (.var 3) (.var 1)) (.cons (.sub (.var 4) (.bin .Sub (.cst (.int 1)) (.var 1))) (.cons (.neg (.cst (.int 1))) .nil))))) (.cons (.var 3) .nil))))
abbrev e_mul : PE := (.cmp .NotEq (.call "mpi_mul" (.cons (.var 5) (.cons (.var 6) (.cons (.var 3) .nil)))) (.call "_law_outwards" (.cons (.comp2 [none, none, none, none, some 2] 1 2 (.var 1) (.var 4) (.call "_law_times" (.cons (.var 1) (.cons (.var 2) .nil)))) (.cons (.var 3) .nil))))
abbrev e_div : PE := (.or (.cmp .NotEq (.call "mpi_div" (.cons (.var 5) (.cons (.var 6) (.cons (.var 4) .nil)))) (.call "_law_quotient" (.cons (.var 1) (.cons (.var 2) (.cons (.var 4) .nil))))) (.cmp .NotEq (.call "mpi_square" (.cons (.var 5) (.cons (.var 3) .nil))) (.call "_law_powers" (.cons (.var 1) (.cons (.cst (.int 2)) (.cons (.var 3) .nil))))))
abbrev e_abs : PE := (.or (.cmp .NotEq (.call "mpi_abs" (.cons (.var 5) (.cons (.var 3) .nil))) (.call "_law_outwards" (.cons (.var 7) (.cons (.var 3) .nil)))) (.cmp .NotEq (.call "mpi_neg" (.cons (.var 6) (.cons (.var 3) .nil))) (.call "_law_outwards" (.cons (.comp [none, none, none] [1, 2] true (.var 2) (.tup (.cons (.neg (.var 1)) (.cons (.var 2) .nil)))) (.cons (.var 3) .nil)))))
abbrev e_sizes : PE := (.bin .Add (.comp [none, none, none, none] [1, 2] true (.var 1) (.tup (.cons (.abs (.var 1)) (.cons (.var 2) .nil)))) (.ite (.cmp .Lt (.bin .Mult (.sub (.sub (.var 1) (.cst (.int 0))) (.cst (.int 0))) (.sub (.sub (.var 1) (.cst (.int 1))) (.cst (.int 0)))) (.cst (.int 0))) (.list (.cons (.tup (.cons (.cst (.int 0)) (.cons (.cst (.int 1)) .nil))) .nil)) (.list .nil)))
abbrev e_times : PE := (.bin .Sub (.bin .Mod (.call "_law_number" (.cons (.var 0) (.cons (.cst (.int 15)) .nil))) (.cst (.int 10))) (.cst (.int 3)))
abbrev e_due : PE := (.ite (.cmp .Eq (.var 8) (.cst (.int 1))) (.var 5) (.call "_law_powers" (.cons (.var 1) (.cons (.var 8) (.cons (.bin .Add (.var 4) (.cst (.int 20))) .nil)))))
abbrev e_last : PE := (.cmp .Eq (.call "mpi_pow_int" (.cons (.var 5) (.cons (.var 8) (.cons (.bin .Add (.var 4) (.cst (.int 20))) .nil)))) (.var 9))
structure St (a b u v : Pr) (p s : Nat) (α β γ δ : Int) : Prop where
  ha : Nm a α
  hb : Nm b β
  hu : Nm u γ
  hv : Nm v δ
  ab : α ≤ β
  uv : γ ≤ δ
  p40 : p ≤ 40
  s1 : 1 ≤ s
  s40 : s ≤ 40
abbrev envL (d0 : D) (a b u v : Pr) (p s : Nat) (α β γ δ : Int) (R : Rho) : Rho :=
  some d0 :: some (.tup [pr a, pr b]) :: some (.tup [pr u, pr v]) :: some (.int p) :: some (.int s) :: some (iv α β (-12)) :: some (iv γ δ (-12)) :: R
theorem c_neSame {d : D} {P N : Prop} (h : ∃ l, d = .tup l ∧ D.pts l = true) (hN : N) : dCmp .NotEq d d P N := by
  obtain ⟨l, rfl, hp⟩ := h; exact c_tneN hp hp rfl hN
theorem c_eqSame {d : D} {P N : Prop} (h : ∃ l, d = .tup l ∧ D.pts l = true) (hP : P) : dCmp .Eq d d P N := by
  obtain ⟨l, rfl, hp⟩ := h; exact c_teqY hp hp rfl hP
theorem all1 {q : Pr → Prop} {x : Pr} (h : q x) : ∀ w ∈ [x], q w := by
  intro w hw; simp only [List.mem_cons, List.not_mem_nil, or_false] at hw; rcases hw with rfl; exact h
theorem all2 {q : Pr → Prop} {x y : Pr} (h : q x) (h' : q y) : ∀ w ∈ [x, y], q w := by
  intro w hw; simp only [List.mem_cons, List.not_mem_nil, or_false] at hw; rcases hw with rfl | rfl <;> assumption
theorem all3 {q : Pr → Prop} {x y z : Pr} (h : q x) (h' : q y) (h'' : q z) : ∀ w ∈ [x, y, z], q w := by
  intro w hw; simp only [List.mem_cons, List.not_mem_nil, or_false] at hw; rcases hw with rfl | rfl | rfl <;> assumption
theorem bd_times {a u : Pr} (ha : Bs a) (hu : Bs u) : Bd (a.1 * u.1, a.2 * u.2) := by
  have b1 := bl_imul a.1 u.1
  have b2 := bl_mul_le a.2 u.2
  have := ha.n; have := hu.n; have := ha.d; have := hu.d
  exact ⟨by show bl (a.1 * u.1).natAbs ≤ 450; omega, by show bl (a.2 * u.2) ≤ 450; omega, Nat.mul_pos ha.p hu.p⟩
theorem bd_plus {a u : Pr} {sd : Int} (ha : Bs a) (hu : Bs u) (hs : sd = 1 ∨ sd = -1) : Bd (a.1 * u.2 + sd * u.1 * a.2, a.2 * u.2) := by
  have hsb : bl sd.natAbs ≤ 1 := by rcases hs with rfl | rfl <;> decide
  have b1 := bl_imul a.1 u.2
  have b3 := bl_imul sd u.1
  have b4 := bl_imul (sd * u.1) a.2
  have b2 := bl_mul_le a.2 u.2
  rw [Int.natAbs_natCast] at b1 b4
  have := ha.n; have := hu.n; have := ha.d; have := hu.d
  have b5 := bl_iadd (x := a.1 * u.2) (y := sd * u.1 * a.2) (k := 300) (by omega) (by omega)
  exact ⟨by show bl (a.1 * u.2 + sd * u.1 * a.2).natAbs ≤ 450; omega, by show bl (a.2 * u.2) ≤ 450; omega, Nat.mul_pos ha.p hu.p⟩
theorem lt36 {w : Int} {k : Nat} (hk : 36 ≤ k) (h : w.natAbs < 2 ^ 36) : w.natAbs < 2 ^ k := Nat.lt_of_lt_of_le h (Nat.pow_le_pow_right (by decide) hk)
section
variable {c : Cx} {a b u v : Pr} {p s : Nat} {α β γ δ : Int} {d0 : D} {R : Rho} {r : PS} {K : Fl → Prop}
theorem k_add (P : Prog c) {N : Nat} (H : St a b u v p s α β γ δ) (h : qS c (N + 12) r (envL d0 a b u v p s α β γ δ R) K) :
    qS c (N + 12) (.ifs e_add (.ret (.cst (.bool false))) .done r) (envL d0 a b u v p s α β γ δ R) K := by
  have f1 := P.is_mpi_add
  have f2 := P.is_law_outwards
  have f3 := P.is_law_plus
  have hp : p ≤ 300 := Nat.le_trans H.p40 (by decide)
  have t1 := (T_mpi_add P (n := N) (p := p) (e := -12) (by decide) hp (lt36 (by decide) H.ha.lt) (lt36 (by decide) H.hb.lt) (lt36 (by decide) H.hu.lt) (lt36 (by decide) H.hv.lt)).mono (m := N + 12) (by omega)
  have t2 := (T_plus P (n := N) (sd := 1) H.ha.bs H.hu.bs (.inl rfl)).mono (m := N + 12) (by omega)
  have t3 := (T_plus P (n := N) (sd := 1) H.hb.bs H.hv.bs (.inl rfl)).mono (m := N + 12) (by omega)
  have t4 := (T_outwards P (n := N) (p := p) (bd_plus (sd := 1) H.ha.bs H.hu.bs (.inl rfl)) (all1 (bd_plus (sd := 1) H.hb.bs H.hv.bs (.inl rfl))) (by simp) hp).mono (m := N + 12) (by omega)
  rw [show (D.tup [ZL false p _ _, ZL true p _ _]) = _ from ck_add (p := p) H.ha H.hb H.hu H.hv H.ab H.uv] at t4
  have hpts := ZZ_pts (p := p) (x := α + γ) (y := β + δ) (e := -12) hp (by decide)
  clear H hp
  refine r_ifs ?_
  repeat' walk_at "bw1"
  refine ⟨_, t1, ?_⟩
  repeat' walk_at "bw1"
  refine r_comp ?_
  repeat' walk_at "bw1"
  refine r_seqT ⟨by decide, by simp, ?_⟩
  refine r_b1 ?_
  repeat' walk_at "bw1"
  refine ⟨_, t2, rfl, ?_⟩
  refine r_b1 ?_
  repeat' walk_at "bw1"
  refine ⟨_, t3, rfl, ?_⟩
  refine r_b0 ?_
  repeat' walk_at "bw1"
  refine ⟨_, t4, ?_⟩
  refine c_neSame hpts ?_
  exact h
end
end
section
open PySem PySem.W PySem.Calls PyProof.Rows PySem.SeqAt
section
variable {c : Cx} {a b u v : Pr} {p s : Nat} {α β γ δ : Int} {d0 : D} {R : Rho} {r : PS} {K : Fl → Prop}
theorem k_sub (P : Prog c) {N : Nat} (H : St a b u v p s α β γ δ) (h : qS c (N + 12) r (envL d0 a b u v p s α β γ δ R) K) :
    qS c (N + 12) (.ifs e_sub (.ret (.cst (.bool false))) .done r) (envL d0 a b u v p s α β γ δ R) K := by
  have f1 := P.is_mpi_sub
  have f2 := P.is_law_outwards
  have f3 := P.is_law_plus
  have hp : p ≤ 300 := Nat.le_trans H.p40 (by decide)
  have t1 := (T_mpi_sub P (n := N) (p := p) (e := -12) (by decide) hp (lt36 (by decide) H.ha.lt) (lt36 (by decide) H.hb.lt) (lt36 (by decide) H.hu.lt) (lt36 (by decide) H.hv.lt)).mono (m := N + 12) (by omega)
  have t2 := (T_plus P (n := N) (sd := -1) H.ha.bs H.hv.bs (.inr rfl)).mono (m := N + 12) (by omega)
  have t3 := (T_plus P (n := N) (sd := -1) H.hb.bs H.hu.bs (.inr rfl)).mono (m := N + 12) (by omega)
  have t4 := (T_outwards P (n := N) (p := p) (bd_plus (sd := -1) H.ha.bs H.hv.bs (.inr rfl)) (all1 (bd_plus (sd := -1) H.hb.bs H.hu.bs (.inr rfl))) (by simp) hp).mono (m := N + 12) (by omega)
  rw [show (D.tup [ZL false p _ _, ZL true p _ _]) = _ from ck_sub (p := p) H.ha H.hb H.hu H.hv H.ab H.uv] at t4
  have hpts := ZZ_pts (p := p) (x := α - δ) (y := β - γ) (e := -12) hp (by decide)
  clear H hp
  refine r_ifs ?_
  repeat' walk_at "bw1"
  refine ⟨_, t1, ?_⟩
  repeat' walk_at "bw1"
  refine r_comp ?_
  repeat' walk_at "bw1"
  refine r_seqT ⟨by decide, by simp, ?_⟩
  refine r_b1 ?_
  repeat' walk_at "bw1"
  refine ⟨_, t2, rfl, ?_⟩
  refine r_b1 ?_
  repeat' walk_at "bw1"
  refine ⟨_, t3, rfl, ?_⟩
  refine r_b0 ?_
  repeat' walk_at "bw1"
  refine ⟨_, t4, ?_⟩
  refine c_neSame hpts ?_
  exact h
theorem k_mul (P : Prog c) {N : Nat} (H : St a b u v p s α β γ δ) (h : qS c (N + 12) r (envL d0 a b u v p s α β γ δ R) K) :
    qS c (N + 12) (.ifs e_mul (.ret (.cst (.bool false))) .done r) (envL d0 a b u v p s α β γ δ R) K := by
  have f1 := P.is_mpi_mul
  have f2 := P.is_law_outwards
  have f3 := P.is_law_times
  have hp : p ≤ 300 := Nat.le_trans H.p40 (by decide)
  have t1 := (T_mpi_mul P (n := N) (p := p) (e := -12) (by decide) hp (lt36 (by decide) H.ha.lt) (lt36 (by decide) H.hb.lt) (lt36 (by decide) H.hu.lt) (lt36 (by decide) H.hv.lt)).mono (m := N + 12) (by omega)
  have ta := (T_times P (n := N) H.ha.bs H.hu.bs).mono (m := N + 12) (by omega)
  have tb := (T_times P (n := N) H.ha.bs H.hv.bs).mono (m := N + 12) (by omega)
  have tc := (T_times P (n := N) H.hb.bs H.hu.bs).mono (m := N + 12) (by omega)
  have td := (T_times P (n := N) H.hb.bs H.hv.bs).mono (m := N + 12) (by omega)
  have t4 := (T_outwards P (n := N) (p := p) (bd_times H.ha.bs H.hu.bs) (all3 (bd_times H.ha.bs H.hv.bs) (bd_times H.hb.bs H.hu.bs) (bd_times H.hb.bs H.hv.bs)) (by simp) hp).mono (m := N + 12) (by omega)
  rw [show (D.tup [ZL false p _ _, ZL true p _ _]) = _ from ck_mul (p := p) H.ha H.hb H.hu H.hv H.ab H.uv] at t4
  have hpts := ZZ_pts (p := p) (x := (mulLH α β γ δ).1) (y := (mulLH α β γ δ).2) (e := -12 + -12) hp (by decide)
  clear H hp
  have h1 : seqOf (.tup [pr a, pr b]) [a, b] := rfl
  have h2 : seqOf (.tup [pr u, pr v]) [u, v] := rfl
  refine r_ifs ?_
  repeat' walk_at "bw1"
  refine ⟨_, t1, ?_⟩
  repeat' walk_at "bw1"
  refine r_comp2 ?_
  repeat' walk_at "bw1"
  refine r_seqOf h1 ⟨flats_pr _, by simp, ?_⟩
  refine r_b2o ?_
  repeat' walk_at "bw1"
  refine r_seqOf h2 ⟨flats_pr _, by simp, ?_⟩
  refine r_b3 ?_
  repeat' walk_at "bw1"
  refine ⟨_, ta, rfl, ?_⟩
  refine r_b3 ?_
  repeat' walk_at "bw1"
  refine ⟨_, tb, rfl, ?_⟩
  refine r_b0 ?_
  refine r_b2o ?_
  repeat' walk_at "bw1"
  refine r_seqOf h2 ⟨flats_pr _, by simp, ?_⟩
  refine r_b3 ?_
  repeat' walk_at "bw1"
  refine ⟨_, tc, rfl, ?_⟩
  refine r_b3 ?_
  repeat' walk_at "bw1"
  refine ⟨_, td, rfl, ?_⟩
  refine r_b0 ?_
  refine r_b0 ?_
  repeat' walk_at "bw1"
  refine ⟨_, t4, ?_⟩
  refine c_neSame hpts ?_
  exact h
theorem k_div (P : Prog c) {N : Nat} (H : St a b u v p s α β γ δ) (h : qS c (N + 12) r (envL d0 a b u v p s α β γ δ R) K) :
    qS c (N + 12) (.ifs e_div (.ret (.cst (.bool false))) .done r) (envL d0 a b u v p s α β γ δ R) K := by
  have f1 := P.is_mpi_div
  have f2 := P.is_law_quotient
  have f3 := P.is_mpi_square
  have f4 := P.is_law_powers
  have hp : p ≤ 300 := Nat.le_trans H.p40 (by decide)
  have hs : s ≤ 200 := Nat.le_trans H.s40 (by decide)
  have hs3 : s ≤ 300 := Nat.le_trans H.s40 (by decide)
  have t1 := (T_mpi_div P (n := N) (p := s) (e₁ := -12) (e₂ := -12) H.s1 hs (by decide) (by decide) (by decide) (by decide) (lt36 (by decide) H.ha.lt) (lt36 (by decide) H.hb.lt) (lt36 (by decide) H.hu.lt) (lt36 (by decide) H.hv.lt) H.ab H.uv).mono (m := N + 12) (by omega)
  have t2 := (T_quot P (n := N) (p := s) (s₁ := 12) (s₂ := 12) (d₁ := .tup [pr a, pr b]) (a := a) (b := b) rfl H.s1 hs3 (by decide) (by decide) H.ha.is H.hb.is H.hu.is H.hv.is H.ha.bs H.hb.bs H.hu.bs H.hv.bs H.ab H.uv).mono (m := N + 12) (by omega)
  rw [show ((12 : Nat) : Int) - ((12 : Nat) : Int) = -12 - -12 from rfl] at t2
  have p1 := div_pts (p := s) (α := α) (β := β) (γ := γ) (δ := δ) (e := -12 - -12) hs3 (by decide) (lt36 (by decide) H.hu.lt) (lt36 (by decide) H.hv.lt) H.uv
  have t3 := (T_mpi_square P (n := N) (p := p) (a := α) (b := β) (e := -12) (by decide) hp (lt36 (by decide) H.ha.lt) (lt36 (by decide) H.hb.lt)).mono (m := N + 12) (by omega)
  have t4 := (T_powers P (n := N) (p := p) (k := 2) (by decide) hp H.ha.n H.hb.n H.ha.d H.hb.d H.ha.p H.hb.p).mono (m := N + 12) (by omega)
  rw [ck_pow (p := p) (k := 2) (by decide) (by decide) H.ha H.hb H.ab] at t4
  have e4 : powLH 2 α β = sqLH α β := rfl
  rw [e4] at t4
  have p2 := ZZ_pts (p := p) (x := (sqLH α β).1) (y := (sqLH α β).2) (e := -12 + -12) hp (by decide)
  clear H hp hs hs3 e4
  refine r_ifs ?_
  repeat' walk_at "bw1"
  refine ⟨_, t1, ?_⟩
  repeat' walk_at "bw1"
  refine ⟨_, t2, ?_⟩
  refine c_neSame p1 ?_
  repeat' walk_at "bw1"
  refine ⟨_, t3, ?_⟩
  repeat' walk_at "bw1"
  refine ⟨_, t4, ?_⟩
  refine c_neSame p2 ?_
  exact h
end
end
section
open PySem PySem.W PySem.Calls PyProof.Rows PySem.SeqAt
theorem bd_abs {a : Pr} (ha : Bs a) : Bd ((if a.1 < 0 then -a.1 else a.1), a.2) := by
  refine ⟨?_, Nat.le_trans ha.d (by decide), ha.p⟩
  have := ha.n
  show bl (if a.1 < 0 then -a.1 else a.1).natAbs ≤ 450
  split
  · rw [Int.natAbs_neg]; omega
  · omega
theorem bd_neg {a : Pr} (ha : Bs a) : Bd (-a.1, a.2) := by
  refine ⟨?_, Nat.le_trans ha.d (by decide), ha.p⟩
  have := ha.n
  show bl (-a.1).natAbs ≤ 450
  rw [Int.natAbs_neg]; omega
section
variable {c : Cx} {a b u v : Pr} {p s : Nat} {α β γ δ : Int} {d0 : D} {R : Rho} {r : PS} {K : Fl → Prop} {x7 x8 x9 : Option D}
theorem k_abs (P : Prog c) {N : Nat} (H : St a b u v p s α β γ δ) (h : ∀ L, qS c (N + 12) r (envL d0 a b u v p s α β γ δ (some L :: R)) K) :
    qS c (N + 12) (.asg 7 e_sizes (.ifs e_abs (.ret (.cst (.bool false))) .done r)) (envL d0 a b u v p s α β γ δ (x7 :: R)) K := by
  have f1 := P.is_mpi_abs
  have f2 := P.is_law_outwards
  have f3 := P.is_mpi_neg
  have hp : p ≤ 300 := Nat.le_trans H.p40 (by decide)
  have m1 : IntMulOk a.1 b.1 := mulB (Nat.le_trans H.ha.n (by decide)) (Nat.le_trans H.hb.n (by decide))
  have t1 := (T_mpi_abs P (n := N) (p := p) (a := α) (b := β) (e := -12) (by decide) hp (lt36 (by decide) H.ha.lt) (lt36 (by decide) H.hb.lt)).mono (m := N + 12) (by omega)
  have B0 : Bd (0, 1) := ⟨by decide, by decide, by decide⟩
  have t2 := (T_outwards P (n := N) (p := p) (bd_abs H.ha.bs) (all2 (bd_abs H.hb.bs) B0) (by simp) hp).mono (m := N + 12) (by omega)
  have t3 := (T_outwards P (n := N) (p := p) (bd_abs H.ha.bs) (all1 (bd_abs H.hb.bs)) (by simp) hp).mono (m := N + 12) (by omega)
  have t5 := (T_mpi_neg2 P (n := N) (p := p) (a := γ) (b := δ) (e := -12) (by decide) hp).mono (m := N + 12) (by omega)
  have t6 := (T_outwards P (n := N) (p := p) (bd_neg H.hu.bs) (all1 (bd_neg H.hv.bs)) (by simp) hp).mono (m := N + 12) (by omega)
  rw [show (D.tup [ZL false p _ _, ZL true p _ _]) = _ from ck_neg (p := p) H.hu H.hv H.uv] at t6
  have e1 := fun hs => ck_abs1 (p := p) H.ha H.hb H.ab hs
  have e2 := fun hs => ck_abs2 (p := p) H.ha H.hb H.ab hs
  have p1 := ZZ_pts (p := p) (x := absLo α β) (y := absHi α β) (e := -12) hp (by decide)
  have p2 := ZZ_pts (p := p) (x := -δ) (y := -γ) (e := -12) hp (by decide)
  clear H hp B0
  have h1 : seqOf (.tup [pr a, pr b]) [a, b] := rfl
  have h2 : seqOf (.tup [pr u, pr v]) [u, v] := rfl
  have rest : ∀ L, Tell c (N + 12) "_law_outwards" [L, .int p] (ZZ p (absLo α β) (absHi α β) (-12)) →
      qS c (N + 12) (.ifs e_abs (.ret (.cst (.bool false))) .done r) (envL d0 a b u v p s α β γ δ (some L :: R)) K := by
    intro L tL
    have hh := h L
    clear t2 t3 e1 e2 m1 h h1
    refine r_ifs ?_
    repeat' walk_at "bw1"
    refine ⟨_, t1, ?_⟩
    repeat' walk_at "bw1"
    refine ⟨_, tL, ?_⟩
    refine c_neSame p1 ?_
    repeat' walk_at "bw1"
    refine ⟨_, t5, ?_⟩
    repeat' walk_at "bw1"
    refine r_comp ?_
    repeat' walk_at "bw1"
    refine r_seqOf h2 ⟨flats_pr _, by simp, ?_⟩
    refine r_b2 ?_
    repeat' walk_at "bw1"
    refine ⟨rfl, ?_⟩
    refine r_b2 ?_
    repeat' walk_at "bw1"
    refine ⟨rfl, ?_⟩
    refine r_b0 ?_
    repeat' walk_at "bw1"
    refine ⟨_, t6, ?_⟩
    refine c_neSame p2 ?_
    exact hh
  clear t1 t5 t6 p1 p2 h h2 f1 f3
  refine r_asg ?_
  repeat' walk_at "bw1"
  refine r_comp ?_
  repeat' walk_at "bw1"
  refine r_seqOf h1 ⟨flats_pr _, by simp, ?_⟩
  refine r_b2 ?_
  repeat' walk_at "bw1"
  refine ⟨rfl, ?_⟩
  refine r_b2 ?_
  repeat' walk_at "bw1"
  refine ⟨rfl, ?_⟩
  refine r_b0 ?_
  repeat' walk_at "bw1"
  · rename_i hs
    refine b_ladd (by simp) ?_
    refine nameD_of ?_
    rw [show (D.tup [ZL false p _ _, ZL true p _ _]) = _ from e1 hs] at t2
    exact rest _ t2
  · rename_i hs
    refine b_ladd (by simp) ?_
    refine nameD_of ?_
    rw [show (D.tup [ZL false p _ _, ZL true p _ _]) = _ from e2 hs] at t3
    exact rest _ t3
theorem pow_facts (P : Prog c) {N : Nat} (H : St a b u v p s α β γ δ) {j : Int} (h0 : -3 ≤ j) (h6 : j ≤ 6) :
    ∃ X, (∃ l, X = .tup l ∧ D.pts l = true) ∧ Tell c (N + 12) "mpi_pow_int" [iv α β (-12), .int j, .int ((s : Int) + 20)] X ∧ (j = 1 → X = iv α β (-12)) ∧
      (j ≠ 1 → Tell c (N + 12) "_law_powers" [.tup [pr a, pr b], .int j, .int ((s : Int) + 20)] X) := by
  have s1 := H.s1
  have s40 := H.s40
  have hsc : (((s + 20 : Nat)) : Int) = (s : Int) + 20 := by push_cast; rfl
  rw [← hsc]
  by_cases j1 : j = 1
  · subst j1
    exact ⟨iv α β (-12), iv_pts, (T_pow1 P (n := N) (a := α) (b := β) (e := -12) (p := ((s + 20 : Nat) : Int))).mono (m := N + 12) (by omega), fun _ => rfl, fun q => (q rfl).elim⟩
  · by_cases j0 : j = 0
    · subst j0
      refine ⟨iv 1 1 0, iv_pts, (T_pow0 P (n := N) (a := α) (b := β) (e := -12) (p := ((s + 20 : Nat) : Int))).mono (m := N + 12) (by omega), fun q => (j1 q).elim, fun _ => ?_⟩
      have t := (T_powers P (n := N) (p := s + 20) (k := 0) (by decide) (by omega) H.ha.n H.hb.n H.ha.d H.hb.d H.ha.p H.hb.p).mono (m := N + 12) (by omega)
      rw [if_neg (fun q => by have := q.2.1; omega), ck_pow0 (by omega) (by omega)] at t
      exact t
    · by_cases jp : 0 < j
      · obtain ⟨k, rfl⟩ : ∃ k : Nat, j = k := ⟨j.toNat, by omega⟩
        have hk2 : 2 ≤ k := by omega
        have hk6 : k ≤ 6 := by omega
        have t := (T_powers P (n := N) (p := s + 20) (k := k) hk6 (by omega) H.ha.n H.hb.n H.ha.d H.hb.d H.ha.p H.hb.p).mono (m := N + 12) (by omega)
        rw [ck_pow (p := s + 20) (k := k) (by omega) hk6 H.ha H.hb H.ab] at t
        exact ⟨_, ZZ_pts (by omega) (by omega), (T_pow_pos P (n := N) (p := s + 20) (k := k) (a := α) (b := β) (e := -12) hk2 hk6 (by omega) (by omega) (by decide) (by decide) (lt36 (by decide) H.ha.lt) (lt36 (by decide) H.hb.lt)).mono (m := N + 12) (by omega), fun q => (j1 q).elim, fun _ => t⟩
      · obtain ⟨k, rfl⟩ : ∃ k : Nat, j = -(k : Int) := ⟨(-j).toNat, by omega⟩
        have hk1 : 1 ≤ k := by omega
        have hk3 : k ≤ 3 := by omega
        have t := (T_powers_neg P (n := N) (p := s + 20) (k := k) (s := 12) hk1 hk3 (by decide) (by omega) (by omega) H.ha.n H.hb.n H.ha.d H.hb.d H.ha.p H.hb.p H.ha.is H.hb.is H.ab).mono (m := N + 12) (by omega)
        rw [show ((12 * k : Nat) : Int) - ((0 : Nat) : Int) = 0 - -12 * (k : Int) by push_cast; omega] at t
        have bd := pwLH_bound hk3 (lt36 (k := 48) (by decide) H.ha.lt) (lt36 (k := 48) (by decide) H.hb.lt)
        exact ⟨_, div_pts (by omega) (by omega) bd.1 bd.2 (pwLH_le H.ab), (T_pow_neg P (n := N) (p := s + 20) (k := k) (a := α) (b := β) (e := -12) hk1 hk3 (by omega) (by omega) (by decide) (by decide) (lt36 (by decide) H.ha.lt) (lt36 (by decide) H.hb.lt) H.ha.few H.hb.few H.ab).mono (m := N + 12) (by omega), fun q => (j1 q).elim, fun _ => t⟩
theorem k_pow (P : Prog c) {N : Nat} {ns : List Int} (hl : ns.length ≤ 1000) (H : St a b u v p s α β γ δ) {x7 : D} :
    qS c (N + 12) (.asg 8 e_times (.asg 9 e_due (.ret e_last))) (envL (.list (ns.map D.int)) a b u v p s α β γ δ (some x7 :: x8 :: x9 :: R)) (fun fl => fl = .rt (.bool true)) := by
  have f1 := P.is_law_number
  have f2 := P.is_law_powers
  have f3 := P.is_mpi_pow_int
  obtain ⟨w, tn⟩ := T_number P (n := N) hl 15
  have tn := tn.mono (m := N + 12) (by omega)
  have hm : w.fmod 10 = w % 10 := fmodp _ (by decide)
  obtain ⟨X, hX, t1, e1, t2⟩ := pow_facts P (N := N) H (j := w % 10 - 3) (by omega) (by omega)
  clear H
  refine r_asg ?_
  repeat' walk_at "bw1"
  refine ⟨_, tn, ?_⟩
  repeat' walk_at "bw1"
  · rename_i j hj h1
    have hje : j = w % 10 - 3 := by rw [hj, hm]
    subst hje
    refine ⟨_, t1, ?_⟩
    rw [e1 h1]
    repeat' walk_at "bw1"
    exact c_eqSame iv_pts rfl
  · rename_i j hj h1
    have hje : j = w % 10 - 3 := by rw [hj, hm]
    subst hje
    refine ⟨_, t2 h1, ?_⟩
    refine nameD_of ?_
    repeat' walk_at "bw1"
    refine ⟨_, t1, ?_⟩
    repeat' walk_at "bw1"
    exact c_eqSame hX rfl
end
end
section
open PySem PySem.W PySem.Calls PyProof.Rows PySem.SeqAt
def tail1 : PS → PS
  | .asg _ _ r => r
  | .ifs _ _ _ r => r
  | p => p
abbrev tail4 (p : PS) : PS := tail1 (tail1 (tail1 (tail1 p)))
theorem Num.sorted {x y : Pr} (hx : Num x) (hy : Num y) : ∃ α β, Nm (pmin x [y]) α ∧ Nm (pmax x [y]) β ∧ α ≤ β := by
  obtain ⟨wx, nx⟩ := hx.nm
  obtain ⟨wy, ny⟩ := hy.nm
  obtain ⟨m1, le1⟩ := pmin_spec (a := x) (xs := [y]) nx.p (all1 ny.p)
  obtain ⟨m2, le2⟩ := pmax_spec (a := x) (xs := [y]) nx.p (all1 ny.p)
  have n1 : Num (pmin x [y]) := by
    simp only [List.mem_cons, List.not_mem_nil, or_false] at m1
    rcases m1 with q | q <;> rw [q] <;> assumption
  have n2 : Num (pmax x [y]) := by
    simp only [List.mem_cons, List.not_mem_nil, or_false] at m2
    rcases m2 with q | q <;> rw [q] <;> assumption
  obtain ⟨α, k1⟩ := n1.nm
  obtain ⟨β, k2⟩ := n2.nm
  refine ⟨α, β, k1, k2, ?_⟩
  have h1 := le1 _ m2
  have e1 := k1.is
  have e2 := k2.is
  have h2 := cross_trans (a := α) (b := (pmin x [y]).1) (d := (pmax x [y]).1) (x := 2 ^ 12) (y := (pmin x [y]).2) (z := (pmax x [y]).2) k1.p (Int.le_of_eq e1.symm) h1
  rw [show (pmax x [y]).1 * ((2 ^ 12 : Nat) : Int) = β * (pmax x [y]).2 from e2] at h2
  exact Int.le_of_mul_le_mul_right h2 (by have := k2.p; omega)
section
variable {c : Cx}
theorem T_law (P : Prog c) {n : Nat} {ns : List Int} (hl : ns.length ≤ 1000) : Tell c (n + 13) "law" [.list (ns.map D.int)] (.bool true) := by
  have f1 := P.is_law_sorted
  have f2 := P.is_law_drawn
  have f3 := P.is_law_number
  have f4 := P.is_law_made
  refine P.t_law1 (n + 12) _ _ ?_
  have hl2 : (ns.take 24).length ≤ 1000 := by rw [List.length_take]; omega
  have htake : (ns.map D.int).take 24 = (ns.take 24).map D.int := List.map_take.symm
  generalize hms : ns.take 24 = ms at hl2 htake
  obtain ⟨x0, n0, t0⟩ := T_drawn P (n := n) hl2 0
  obtain ⟨x3, n3, t3⟩ := T_drawn P (n := n) hl2 3
  obtain ⟨x6, n6, t6⟩ := T_drawn P (n := n) hl2 6
  obtain ⟨x9, n9, t9⟩ := T_drawn P (n := n) hl2 9
  have t0 := t0.mono (m := n + 12) (by omega)
  have t3 := t3.mono (m := n + 12) (by omega)
  have t6 := t6.mono (m := n + 12) (by omega)
  have t9 := t9.mono (m := n + 12) (by omega)
  have bd : ∀ {x : Pr}, Num x → Bd x := fun h => by obtain ⟨_, k⟩ := h.nm; exact k.bs.bd
  have s1 := (T_sorted P (n := n) (bd n0) (all1 (bd n3)) (by simp)).mono (m := n + 12) (by omega)
  have s2 := (T_sorted P (n := n) (bd n6) (all1 (bd n9)) (by simp)).mono (m := n + 12) (by omega)
  obtain ⟨α, β, ha, hb, hab⟩ := n0.sorted n3
  obtain ⟨γ, δ, hu, hv, huv⟩ := n6.sorted n9
  generalize pmin x0 [x3] = a at *
  generalize pmax x0 [x3] = b at *
  generalize pmin x6 [x9] = u at *
  generalize pmax x6 [x9] = v at *
  obtain ⟨v12, q12⟩ := T_number P (n := n) hl2 12
  obtain ⟨v13, q13⟩ := T_number P (n := n) hl2 13
  obtain ⟨v14, q14⟩ := T_number P (n := n) hl2 14
  have q12 := q12.mono (m := n + 12) (by omega)
  have q13 := q13.mono (m := n + 12) (by omega)
  have q14 := q14.mono (m := n + 12) (by omega)
  obtain ⟨p, hp, hp40⟩ : ∃ p : Nat, v13.fmod 41 = p ∧ p ≤ 40 := ⟨(v13 % 41).toNat, by rw [fmodp _ (by decide)]; omega, by omega⟩
  obtain ⟨s, hs, hs1, hs40⟩ : ∃ s : Nat, 1 + v14.fmod 40 = s ∧ 1 ≤ s ∧ s ≤ 40 := ⟨(1 + v14 % 40).toNat, by rw [fmodp _ (by decide)]; omega, by omega, by omega⟩
  have tm1 := (T_made P (n := n) (a := a) (b := b) (d := .tup [pr a, pr b]) rfl).mono (m := n + 12) (by omega)
  rw [ha.fpe, hb.fpe] at tm1
  -- what follows the reading of two
  have rest : ∀ (u v : Pr) (γ δ : Int), Nm u γ → Nm v δ → γ ≤ δ → ∀ R : Rho, ∀ y3 y4 y5 y6 y7 y8 y9 : Option D,
      qS c (n + 12) (tail4 c_law) (some (.list (ms.map D.int)) :: some (.tup [pr a, pr b]) :: some (.tup [pr u, pr v]) :: y3 :: y4 :: y5 :: y6 :: y7 :: y8 :: y9 :: R) (fun fl => fl = .rt (.bool true)) := by
    intro u v γ δ hu hv huv R y3 y4 y5 y6 y7 y8 y9
    have H : St a b u v p s α β γ δ := ⟨ha, hb, hu, hv, hab, huv, hp40, hs1, hs40⟩
    have tm2 := (T_made P (n := n) (a := u) (b := v) (d := .tup [pr u, pr v]) rfl).mono (m := n + 12) (by omega)
    rw [hu.fpe, hv.fpe] at tm2
    clear t0 t3 t6 t9 s1 s2 q12
    show qS c (n + 12) (.unpR [3, 4] _ (.unpR [5, 6] _ (.ifs e_add (.ret (.cst (.bool false))) .done (.ifs e_sub (.ret (.cst (.bool false))) .done (.ifs e_mul (.ret (.cst (.bool false))) .done (.ifs e_div (.ret (.cst (.bool false))) .done (.asg 7 e_sizes (.ifs e_abs (.ret (.cst (.bool false))) .done
      (.asg 8 e_times (.asg 9 e_due (.ret e_last))))))))))) _ _
    have body : qS c (n + 12) (.ifs e_add (.ret (.cst (.bool false))) .done (.ifs e_sub (.ret (.cst (.bool false))) .done (.ifs e_mul (.ret (.cst (.bool false))) .done (.ifs e_div (.ret (.cst (.bool false))) .done (.asg 7 e_sizes (.ifs e_abs (.ret (.cst (.bool false))) .done
      (.asg 8 e_times (.asg 9 e_due (.ret e_last))))))))) (envL (.list (ms.map D.int)) a b u v p s α β γ δ (y7 :: y8 :: y9 :: R)) (fun fl => fl = .rt (.bool true)) :=
      k_add P H (k_sub P H (k_mul P H (k_div P H (k_abs P H fun L => k_pow P hl2 H))))
    generalize (PS.ifs e_add _ _ _) = B at body ⊢
    clear H ha hb hu hv
    refine r_unpR ?_
    repeat' walk_at "bw1"
    refine ⟨_, q13, ?_⟩
    repeat' walk_at "bw1"
    refine ⟨_, q14, ?_⟩
    repeat' walk_at "bw1"
    rw [hp, hs]
    refine ⟨_, tm1, ?_⟩
    repeat' walk_at "bw1"
    refine ⟨_, tm2, ?_⟩
    repeat' walk_at "bw1"
    exact body
  clear hp hs
  show qS c (n + 12) (.asg 0 (.take (.var 0) 24) (.asg 1 _ (.asg 2 _ (.ifs _ _ .done (tail4 c_law))))) _ _
  generalize tail4 c_law = B at rest ⊢
  refine r_asg (r_take ?_)
  repeat' walk_at "bw1"
  refine r_dList ⟨by rw [List.length_map]; exact hl, ?_⟩
  rw [htake]
  repeat' walk_at "bw1"
  refine ⟨_, t0, ?_⟩
  repeat' walk_at "bw1"
  refine ⟨_, t3, ?_⟩
  repeat' walk_at "bw1"
  refine ⟨_, s1, ?_⟩
  repeat' walk_at "bw1"
  refine ⟨_, t6, ?_⟩
  repeat' walk_at "bw1"
  refine ⟨_, t9, ?_⟩
  repeat' walk_at "bw1"
  refine ⟨_, s2, ?_⟩
  repeat' walk_at "bw1"
  refine ⟨_, q12, ?_⟩
  repeat' walk_at "bw1"
  · exact rest u u γ γ hu hu (Int.le_refl _) _ _ _ _ _ _ _ _
  · exact rest u v γ δ hu hv huv _ _ _ _ _ _ _ _
end
end
end
section
open PySem PySem.W PyProof.Rows PySem.Calls


set_option maxRecDepth 100000
set_option maxHeartbeats 4000000
noncomputable def cx (w : World) (p : Program) (loose : List Str) (mg mb : Str → Option Value) : Cx := ⟨PySem.Challenge.rw_bw0034_01.prog, w, hd.heap_39 w.params, p, loose, mg, mb⟩
theorem is_trailing' (w : World) (p : Program) (loose : List Str) (mg mb : Str → Option Value) : FnIs (cx w p loose mg mb) "trailing" := by
  refine' fnIs' (K := hd.heap_39 w.params) ?hK ?g ?l ?d
  case hK => exact rfl
  case g => k_is
  case l => k_is
  case d => exact rfl
theorem t_trailing1' (w : World) (p : Program) (loose : List Str) (mg mb : Str → Option Value) : ∀ (n : Nat) (x0 d : D), qS (cx w p loose mg mb) n c_trailing [some x0] (fun fl => fl = .rt d) → Tell (cx w p loose mg mb) (n + 1) "trailing" [x0] d := by
  intro n x0 d h
  refine' tellOf' (K := hd.heap_39 w.params) (k := 60) (ps := ["n"]) (dd := []) (dv := []) ?hK ?g ?l ?p1 ?p2 ?p3 ?p4 ?p5 ?p6 ?p7 ?p8 ?q1 ?q2 ?q3 ?q4 ?q5 ?q6 h
  case hK => exact rfl
  case g => k_is
  case l => k_is
  case p1 => exact rfl
  case p2 => exact rfl
  case p3 => exact rfl
  case p4 => exact rfl
  case p5 => exact rfl
  case p6 => exact rfl
  case p7 => exact rfl
  case p8 => k_is
  case q3 =>
    intro vs S hl
    match vs, hl with
    | [v0], _ => exact rfl
  case q1 => decide
  case q2 => decide
  case q4 => exact fun h X => rfl
  case q5 => kernel_rfl
  case q6 => exact rfl
theorem is_normalize0' (w : World) (p : Program) (loose : List Str) (mg mb : Str → Option Value) : FnIs (cx w p loose mg mb) "_normalize" := by
  refine' fnIs' (K := hd.heap_39 w.params) ?hK ?g ?l ?d
  case hK => exact rfl
  case g => k_is
  case l => k_is
  case d => exact rfl
theorem t_normalize06' (w : World) (p : Program) (loose : List Str) (mg mb : Str → Option Value) : ∀ (n : Nat) (x0 x1 x2 x3 x4 x5 d : D), qS (cx w p loose mg mb) n c_normalize0 [some x0, some x1, some x2, some x3, some x4, some x5, none, none, none, none, none, none, none] (fun fl => fl = .rt d) → Tell (cx w p loose mg mb) (n + 1) "_normalize" [x0, x1, x2, x3, x4, x5] d := by
  intro n x0 x1 x2 x3 x4 x5 d h
  refine' tellOf' (K := hd.heap_39 w.params) (k := 60) (ps := ["sign", "man", "exp", "bc", "prec", "rnd"]) (dd := []) (dv := []) ?hK ?g ?l ?p1 ?p2 ?p3 ?p4 ?p5 ?p6 ?p7 ?p8 ?q1 ?q2 ?q3 ?q4 ?q5 ?q6 h
  case hK => exact rfl
  case g => k_is
  case l => k_is
  case p1 => exact rfl
  case p2 => exact rfl
  case p3 => exact rfl
  case p4 => exact rfl
  case p5 => exact rfl
  case p6 => exact rfl
  case p7 => exact rfl
  case p8 => k_is
  case q3 =>
    intro vs S hl
    match vs, hl with
    | [v0, v1, v2, v3, v4, v5], _ => exact rfl
  case q1 => decide
  case q2 => decide
  case q4 => exact fun h X => rfl
  case q5 => kernel_rfl
  case q6 => exact rfl
theorem is_normalize' (w : World) (p : Program) (loose : List Str) (mg mb : Str → Option Value) : FnIs (cx w p loose mg mb) "normalize" := by
  refine' fnIs' (K := hd.heap_39 w.params) ?hK ?g ?l ?d
  case hK => exact rfl
  case g => k_is
  case l => k_is
  case d => exact rfl
theorem t_normalize6' (w : World) (p : Program) (loose : List Str) (mg mb : Str → Option Value) : ∀ (n : Nat) (x0 x1 x2 x3 x4 x5 d : D), qS (cx w p loose mg mb) n c_normalize [some x0, some x1, some x2, some x3, some x4, some x5, none] (fun fl => fl = .rt d) → Tell (cx w p loose mg mb) (n + 1) "normalize" [x0, x1, x2, x3, x4, x5] d := by
  intro n x0 x1 x2 x3 x4 x5 d h
  refine' tellOf' (K := hd.heap_39 w.params) (k := 60) (ps := ["sign", "man", "exp", "bc", "prec", "rnd"]) (dd := []) (dv := []) ?hK ?g ?l ?p1 ?p2 ?p3 ?p4 ?p5 ?p6 ?p7 ?p8 ?q1 ?q2 ?q3 ?q4 ?q5 ?q6 h
  case hK => exact rfl
  case g => k_is
  case l => k_is
  case p1 => exact rfl
  case p2 => exact rfl
  case p3 => exact rfl
  case p4 => exact rfl
  case p5 => exact rfl
  case p6 => exact rfl
  case p7 => exact rfl
  case p8 => k_is
  case q3 =>
    intro vs S hl
    match vs, hl with
    | [v0, v1, v2, v3, v4, v5], _ => exact rfl
  case q1 => decide
  case q2 => decide
  case q4 => exact fun h X => rfl
  case q5 => kernel_rfl
  case q6 => exact rfl
theorem is_from_man_exp' (w : World) (p : Program) (loose : List Str) (mg mb : Str → Option Value) : FnIs (cx w p loose mg mb) "from_man_exp" := by
  refine' fnIs' (K := hd.heap_39 w.params) ?hK ?g ?l ?d
  case hK => exact rfl
  case g => k_is
  case l => k_is
  case d => exact rfl
theorem t_from_man_exp2' (w : World) (p : Program) (loose : List Str) (mg mb : Str → Option Value) : ∀ (n : Nat) (x0 x1 d : D), qS (cx w p loose mg mb) n c_from_man_exp [some x0, some x1, some (.int 0), some (.str "d"), none, none, none, none, none, none, none, none, none] (fun fl => fl = .rt d) → Tell (cx w p loose mg mb) (n + 1) "from_man_exp" [x0, x1] d := by
  intro n x0 x1 d h
  refine' tellOfD (K := hd.heap_39 w.params) (k := 60) (ps := ["man", "exp", "prec", "rnd"]) (dd := [(.int 0), (.str "d")]) (j := 0) ?hK ?g ?l ?r1 ?r2 ?r3 ?p1 ?p2 ?p3 ?p4 ?p5 ?p6 ?p7 ?p8 ?q1 ?q2 ?q3 ?q4 ?q5 ?q6 h
  case hK => exact rfl
  case g => k_is
  case l => k_is
  case r1 => exact rfl
  case r2 => k_is
  case r3 => exact rfl
  case p1 => exact rfl
  case p2 => exact rfl
  case p3 => exact rfl
  case p4 => exact rfl
  case p5 => exact rfl
  case p6 => exact rfl
  case p7 => exact rfl
  case p8 => k_is
  case q3 =>
    intro vs S hl
    match vs, hl with
    | [v0, v1], _ => exact rfl
  case q1 => decide
  case q2 => decide
  case q4 => exact fun h X => ⟨_, _, rfl, ⟨_, rfl⟩, ⟨_, _, rfl, ⟨_, rfl⟩, rfl⟩⟩
  case q5 => kernel_rfl
  case q6 => exact rfl
theorem is_mpf_cmp' (w : World) (p : Program) (loose : List Str) (mg mb : Str → Option Value) : FnIs (cx w p loose mg mb) "mpf_cmp" := by
  refine' fnIs' (K := hd.heap_39 w.params) ?hK ?g ?l ?d
  case hK => exact rfl
  case g => k_is
  case l => k_is
  case d => exact rfl
theorem t_mpf_cmp2' (w : World) (p : Program) (loose : List Str) (mg mb : Str → Option Value) : ∀ (n : Nat) (x0 x1 d : D), qS (cx w p loose mg mb) n c_mpf_cmp [some x0, some x1, none, none, none, none, none, none, none, none, none, none, none, none, none, none, none, none, none, none] (fun fl => fl = .rt d) → Tell (cx w p loose mg mb) (n + 1) "mpf_cmp" [x0, x1] d := by
  intro n x0 x1 d h
  refine' tellOf' (K := hd.heap_39 w.params) (k := 60) (ps := ["s", "t"]) (dd := []) (dv := []) ?hK ?g ?l ?p1 ?p2 ?p3 ?p4 ?p5 ?p6 ?p7 ?p8 ?q1 ?q2 ?q3 ?q4 ?q5 ?q6 h
  case hK => exact rfl
  case g => k_is
  case l => k_is
  case p1 => exact rfl
  case p2 => exact rfl
  case p3 => exact rfl
  case p4 => exact rfl
  case p5 => exact rfl
  case p6 => exact rfl
  case p7 => exact rfl
  case p8 => k_is
  case q3 =>
    intro vs S hl
    match vs, hl with
    | [v0, v1], _ => exact rfl
  case q1 => decide
  case q2 => decide
  case q4 => exact fun h X => rfl
  case q5 => kernel_rfl
  case q6 => exact rfl
theorem is_mpf_lt' (w : World) (p : Program) (loose : List Str) (mg mb : Str → Option Value) : FnIs (cx w p loose mg mb) "mpf_lt" := by
  refine' fnIs' (K := hd.heap_39 w.params) ?hK ?g ?l ?d
  case hK => exact rfl
  case g => k_is
  case l => k_is
  case d => exact rfl
theorem t_mpf_lt2' (w : World) (p : Program) (loose : List Str) (mg mb : Str → Option Value) : ∀ (n : Nat) (x0 x1 d : D), qS (cx w p loose mg mb) n c_mpf_lt [some x0, some x1, none, none] (fun fl => fl = .rt d) → Tell (cx w p loose mg mb) (n + 1) "mpf_lt" [x0, x1] d := by
  intro n x0 x1 d h
  refine' tellOf' (K := hd.heap_39 w.params) (k := 60) (ps := ["s", "t"]) (dd := []) (dv := []) ?hK ?g ?l ?p1 ?p2 ?p3 ?p4 ?p5 ?p6 ?p7 ?p8 ?q1 ?q2 ?q3 ?q4 ?q5 ?q6 h
  case hK => exact rfl
  case g => k_is
  case l => k_is
  case p1 => exact rfl
  case p2 => exact rfl
  case p3 => exact rfl
  case p4 => exact rfl
  case p5 => exact rfl
  case p6 => exact rfl
  case p7 => exact rfl
  case p8 => k_is
  case q3 =>
    intro vs S hl
    match vs, hl with
    | [v0, v1], _ => exact rfl
  case q1 => decide
  case q2 => decide
  case q4 => exact fun h X => rfl
  case q5 => kernel_rfl
  case q6 => exact rfl
theorem is_mpf_le' (w : World) (p : Program) (loose : List Str) (mg mb : Str → Option Value) : FnIs (cx w p loose mg mb) "mpf_le" := by
  refine' fnIs' (K := hd.heap_39 w.params) ?hK ?g ?l ?d
  case hK => exact rfl
  case g => k_is
  case l => k_is
  case d => exact rfl
theorem t_mpf_le2' (w : World) (p : Program) (loose : List Str) (mg mb : Str → Option Value) : ∀ (n : Nat) (x0 x1 d : D), qS (cx w p loose mg mb) n c_mpf_le [some x0, some x1, none, none] (fun fl => fl = .rt d) → Tell (cx w p loose mg mb) (n + 1) "mpf_le" [x0, x1] d := by
  intro n x0 x1 d h
  refine' tellOf' (K := hd.heap_39 w.params) (k := 60) (ps := ["s", "t"]) (dd := []) (dv := []) ?hK ?g ?l ?p1 ?p2 ?p3 ?p4 ?p5 ?p6 ?p7 ?p8 ?q1 ?q2 ?q3 ?q4 ?q5 ?q6 h
  case hK => exact rfl
  case g => k_is
  case l => k_is
  case p1 => exact rfl
  case p2 => exact rfl
  case p3 => exact rfl
  case p4 => exact rfl
  case p5 => exact rfl
  case p6 => exact rfl
  case p7 => exact rfl
  case p8 => k_is
  case q3 =>
    intro vs S hl
    match vs, hl with
    | [v0, v1], _ => exact rfl
  case q1 => decide
  case q2 => decide
  case q4 => exact fun h X => rfl
  case q5 => kernel_rfl
  case q6 => exact rfl
theorem is_mpf_gt' (w : World) (p : Program) (loose : List Str) (mg mb : Str → Option Value) : FnIs (cx w p loose mg mb) "mpf_gt" := by
  refine' fnIs' (K := hd.heap_39 w.params) ?hK ?g ?l ?d
  case hK => exact rfl
  case g => k_is
  case l => k_is
  case d => exact rfl
theorem t_mpf_gt2' (w : World) (p : Program) (loose : List Str) (mg mb : Str → Option Value) : ∀ (n : Nat) (x0 x1 d : D), qS (cx w p loose mg mb) n c_mpf_gt [some x0, some x1, none, none] (fun fl => fl = .rt d) → Tell (cx w p loose mg mb) (n + 1) "mpf_gt" [x0, x1] d := by
  intro n x0 x1 d h
  refine' tellOf' (K := hd.heap_39 w.params) (k := 60) (ps := ["s", "t"]) (dd := []) (dv := []) ?hK ?g ?l ?p1 ?p2 ?p3 ?p4 ?p5 ?p6 ?p7 ?p8 ?q1 ?q2 ?q3 ?q4 ?q5 ?q6 h
  case hK => exact rfl
  case g => k_is
  case l => k_is
  case p1 => exact rfl
  case p2 => exact rfl
  case p3 => exact rfl
  case p4 => exact rfl
  case p5 => exact rfl
  case p6 => exact rfl
  case p7 => exact rfl
  case p8 => k_is
  case q3 =>
    intro vs S hl
    match vs, hl with
    | [v0, v1], _ => exact rfl
  case q1 => decide
  case q2 => decide
  case q4 => exact fun h X => rfl
  case q5 => kernel_rfl
  case q6 => exact rfl
theorem is_mpf_ge' (w : World) (p : Program) (loose : List Str) (mg mb : Str → Option Value) : FnIs (cx w p loose mg mb) "mpf_ge" := by
  refine' fnIs' (K := hd.heap_39 w.params) ?hK ?g ?l ?d
  case hK => exact rfl
  case g => k_is
  case l => k_is
  case d => exact rfl
theorem t_mpf_ge2' (w : World) (p : Program) (loose : List Str) (mg mb : Str → Option Value) : ∀ (n : Nat) (x0 x1 d : D), qS (cx w p loose mg mb) n c_mpf_ge [some x0, some x1, none, none] (fun fl => fl = .rt d) → Tell (cx w p loose mg mb) (n + 1) "mpf_ge" [x0, x1] d := by
  intro n x0 x1 d h
  refine' tellOf' (K := hd.heap_39 w.params) (k := 60) (ps := ["s", "t"]) (dd := []) (dv := []) ?hK ?g ?l ?p1 ?p2 ?p3 ?p4 ?p5 ?p6 ?p7 ?p8 ?q1 ?q2 ?q3 ?q4 ?q5 ?q6 h
  case hK => exact rfl
  case g => k_is
  case l => k_is
  case p1 => exact rfl
  case p2 => exact rfl
  case p3 => exact rfl
  case p4 => exact rfl
  case p5 => exact rfl
  case p6 => exact rfl
  case p7 => exact rfl
  case p8 => k_is
  case q3 =>
    intro vs S hl
    match vs, hl with
    | [v0, v1], _ => exact rfl
  case q1 => decide
  case q2 => decide
  case q4 => exact fun h X => rfl
  case q5 => kernel_rfl
  case q6 => exact rfl
theorem is_mpf_min_max' (w : World) (p : Program) (loose : List Str) (mg mb : Str → Option Value) : FnIs (cx w p loose mg mb) "mpf_min_max" := by
  refine' fnIs' (K := hd.heap_39 w.params) ?hK ?g ?l ?d
  case hK => exact rfl
  case g => k_is
  case l => k_is
  case d => exact rfl
theorem t_mpf_min_max1' (w : World) (p : Program) (loose : List Str) (mg mb : Str → Option Value) : ∀ (n : Nat) (x0 d : D), qS (cx w p loose mg mb) n c_mpf_min_max [some x0, none, none, none, none, none] (fun fl => fl = .rt d) → Tell (cx w p loose mg mb) (n + 1) "mpf_min_max" [x0] d := by
  intro n x0 d h
  refine' tellOf' (K := hd.heap_39 w.params) (k := 60) (ps := ["seq"]) (dd := []) (dv := []) ?hK ?g ?l ?p1 ?p2 ?p3 ?p4 ?p5 ?p6 ?p7 ?p8 ?q1 ?q2 ?q3 ?q4 ?q5 ?q6 h
  case hK => exact rfl
  case g => k_is
  case l => k_is
  case p1 => exact rfl
  case p2 => exact rfl
  case p3 => exact rfl
  case p4 => exact rfl
  case p5 => exact rfl
  case p6 => exact rfl
  case p7 => exact rfl
  case p8 => k_is
  case q3 =>
    intro vs S hl
    match vs, hl with
    | [v0], _ => exact rfl
  case q1 => decide
  case q2 => decide
  case q4 => exact fun h X => rfl
  case q5 => kernel_rfl
  case q6 => exact rfl
theorem is_mpf_pos' (w : World) (p : Program) (loose : List Str) (mg mb : Str → Option Value) : FnIs (cx w p loose mg mb) "mpf_pos" := by
  refine' fnIs' (K := hd.heap_39 w.params) ?hK ?g ?l ?d
  case hK => exact rfl
  case g => k_is
  case l => k_is
  case d => exact rfl
theorem t_mpf_pos3' (w : World) (p : Program) (loose : List Str) (mg mb : Str → Option Value) : ∀ (n : Nat) (x0 x1 x2 d : D), qS (cx w p loose mg mb) n c_mpf_pos [some x0, some x1, some x2, none, none, none, none, none] (fun fl => fl = .rt d) → Tell (cx w p loose mg mb) (n + 1) "mpf_pos" [x0, x1, x2] d := by
  intro n x0 x1 x2 d h
  refine' tellOf' (K := hd.heap_39 w.params) (k := 60) (ps := ["s", "prec", "rnd"]) (dd := []) (dv := []) ?hK ?g ?l ?p1 ?p2 ?p3 ?p4 ?p5 ?p6 ?p7 ?p8 ?q1 ?q2 ?q3 ?q4 ?q5 ?q6 h
  case hK => exact rfl
  case g => k_is
  case l => k_is
  case p1 => exact rfl
  case p2 => exact rfl
  case p3 => exact rfl
  case p4 => exact rfl
  case p5 => exact rfl
  case p6 => exact rfl
  case p7 => exact rfl
  case p8 => k_is
  case q3 =>
    intro vs S hl
    match vs, hl with
    | [v0, v1, v2], _ => exact rfl
  case q1 => decide
  case q2 => decide
  case q4 => exact fun h X => rfl
  case q5 => kernel_rfl
  case q6 => exact rfl
theorem is_mpf_neg' (w : World) (p : Program) (loose : List Str) (mg mb : Str → Option Value) : FnIs (cx w p loose mg mb) "mpf_neg" := by
  refine' fnIs' (K := hd.heap_39 w.params) ?hK ?g ?l ?d
  case hK => exact rfl
  case g => k_is
  case l => k_is
  case d => exact rfl
theorem t_mpf_neg1' (w : World) (p : Program) (loose : List Str) (mg mb : Str → Option Value) : ∀ (n : Nat) (x0 d : D), qS (cx w p loose mg mb) n c_mpf_neg [some x0, some (.int 0), some (.str "d"), none, none, none, none, none, none, none] (fun fl => fl = .rt d) → Tell (cx w p loose mg mb) (n + 1) "mpf_neg" [x0] d := by
  intro n x0 d h
  refine' tellOfD (K := hd.heap_39 w.params) (k := 60) (ps := ["s", "prec", "rnd"]) (dd := [(.int 0), (.str "d")]) (j := 0) ?hK ?g ?l ?r1 ?r2 ?r3 ?p1 ?p2 ?p3 ?p4 ?p5 ?p6 ?p7 ?p8 ?q1 ?q2 ?q3 ?q4 ?q5 ?q6 h
  case hK => exact rfl
  case g => k_is
  case l => k_is
  case r1 => exact rfl
  case r2 => k_is
  case r3 => exact rfl
  case p1 => exact rfl
  case p2 => exact rfl
  case p3 => exact rfl
  case p4 => exact rfl
  case p5 => exact rfl
  case p6 => exact rfl
  case p7 => exact rfl
  case p8 => k_is
  case q3 =>
    intro vs S hl
    match vs, hl with
    | [v0], _ => exact rfl
  case q1 => decide
  case q2 => decide
  case q4 => exact fun h X => ⟨_, _, rfl, ⟨_, rfl⟩, ⟨_, _, rfl, ⟨_, rfl⟩, rfl⟩⟩
  case q5 => kernel_rfl
  case q6 => exact rfl
theorem t_mpf_neg3' (w : World) (p : Program) (loose : List Str) (mg mb : Str → Option Value) : ∀ (n : Nat) (x0 x1 x2 d : D), qS (cx w p loose mg mb) n c_mpf_neg [some x0, some x1, some x2, none, none, none, none, none, none, none] (fun fl => fl = .rt d) → Tell (cx w p loose mg mb) (n + 1) "mpf_neg" [x0, x1, x2] d := by
  intro n x0 x1 x2 d h
  refine' tellOf' (K := hd.heap_39 w.params) (k := 60) (ps := ["s", "prec", "rnd"]) (dd := []) (dv := []) ?hK ?g ?l ?p1 ?p2 ?p3 ?p4 ?p5 ?p6 ?p7 ?p8 ?q1 ?q2 ?q3 ?q4 ?q5 ?q6 h
  case hK => exact rfl
  case g => k_is
  case l => k_is
  case p1 => exact rfl
  case p2 => exact rfl
  case p3 => exact rfl
  case p4 => exact rfl
  case p5 => exact rfl
  case p6 => exact rfl
  case p7 => exact rfl
  case p8 => k_is
  case q3 =>
    intro vs S hl
    match vs, hl with
    | [v0, v1, v2], _ => exact rfl
  case q1 => decide
  case q2 => decide
  case q4 => exact fun h X => rfl
  case q5 => kernel_rfl
  case q6 => exact rfl
theorem is_mpf_sign' (w : World) (p : Program) (loose : List Str) (mg mb : Str → Option Value) : FnIs (cx w p loose mg mb) "mpf_sign" := by
  refine' fnIs' (K := hd.heap_39 w.params) ?hK ?g ?l ?d
  case hK => exact rfl
  case g => k_is
  case l => k_is
  case d => exact rfl
theorem t_mpf_sign1' (w : World) (p : Program) (loose : List Str) (mg mb : Str → Option Value) : ∀ (n : Nat) (x0 d : D), qS (cx w p loose mg mb) n c_mpf_sign [some x0, none, none, none, none, none, none] (fun fl => fl = .rt d) → Tell (cx w p loose mg mb) (n + 1) "mpf_sign" [x0] d := by
  intro n x0 d h
  refine' tellOf' (K := hd.heap_39 w.params) (k := 60) (ps := ["s"]) (dd := []) (dv := []) ?hK ?g ?l ?p1 ?p2 ?p3 ?p4 ?p5 ?p6 ?p7 ?p8 ?q1 ?q2 ?q3 ?q4 ?q5 ?q6 h
  case hK => exact rfl
  case g => k_is
  case l => k_is
  case p1 => exact rfl
  case p2 => exact rfl
  case p3 => exact rfl
  case p4 => exact rfl
  case p5 => exact rfl
  case p6 => exact rfl
  case p7 => exact rfl
  case p8 => k_is
  case q3 =>
    intro vs S hl
    match vs, hl with
    | [v0], _ => exact rfl
  case q1 => decide
  case q2 => decide
  case q4 => exact fun h X => rfl
  case q5 => kernel_rfl
  case q6 => exact rfl
theorem is_mpf_add' (w : World) (p : Program) (loose : List Str) (mg mb : Str → Option Value) : FnIs (cx w p loose mg mb) "mpf_add" := by
  refine' fnIs' (K := hd.heap_39 w.params) ?hK ?g ?l ?d
  case hK => exact rfl
  case g => k_is
  case l => k_is
  case d => exact rfl
theorem t_mpf_add4' (w : World) (p : Program) (loose : List Str) (mg mb : Str → Option Value) : ∀ (n : Nat) (x0 x1 x2 x3 d : D), qS (cx w p loose mg mb) n c_mpf_add [some x0, some x1, some x2, some x3, some (.int 0), none, none, none, none, none, none, none, none, none, none, none, none, none, none, none] (fun fl => fl = .rt d) → Tell (cx w p loose mg mb) (n + 1) "mpf_add" [x0, x1, x2, x3] d := by
  intro n x0 x1 x2 x3 d h
  refine' tellOfD (K := hd.heap_39 w.params) (k := 60) (ps := ["s", "t", "prec", "rnd", "_sub"]) (dd := [(.int 0)]) (j := 2) ?hK ?g ?l ?r1 ?r2 ?r3 ?p1 ?p2 ?p3 ?p4 ?p5 ?p6 ?p7 ?p8 ?q1 ?q2 ?q3 ?q4 ?q5 ?q6 h
  case hK => exact rfl
  case g => k_is
  case l => k_is
  case r1 => exact rfl
  case r2 => k_is
  case r3 => exact rfl
  case p1 => exact rfl
  case p2 => exact rfl
  case p3 => exact rfl
  case p4 => exact rfl
  case p5 => exact rfl
  case p6 => exact rfl
  case p7 => exact rfl
  case p8 => k_is
  case q3 =>
    intro vs S hl
    match vs, hl with
    | [v0, v1, v2, v3], _ => exact rfl
  case q1 => decide
  case q2 => decide
  case q4 => exact fun h X => ⟨_, _, rfl, ⟨_, rfl⟩, rfl⟩
  case q5 => kernel_rfl
  case q6 => exact rfl
theorem t_mpf_add5' (w : World) (p : Program) (loose : List Str) (mg mb : Str → Option Value) : ∀ (n : Nat) (x0 x1 x2 x3 x4 d : D), qS (cx w p loose mg mb) n c_mpf_add [some x0, some x1, some x2, some x3, some x4, none, none, none, none, none, none, none, none, none, none, none, none, none, none, none] (fun fl => fl = .rt d) → Tell (cx w p loose mg mb) (n + 1) "mpf_add" [x0, x1, x2, x3, x4] d := by
  intro n x0 x1 x2 x3 x4 d h
  refine' tellOf' (K := hd.heap_39 w.params) (k := 60) (ps := ["s", "t", "prec", "rnd", "_sub"]) (dd := []) (dv := []) ?hK ?g ?l ?p1 ?p2 ?p3 ?p4 ?p5 ?p6 ?p7 ?p8 ?q1 ?q2 ?q3 ?q4 ?q5 ?q6 h
  case hK => exact rfl
  case g => k_is
  case l => k_is
  case p1 => exact rfl
  case p2 => exact rfl
  case p3 => exact rfl
  case p4 => exact rfl
  case p5 => exact rfl
  case p6 => exact rfl
  case p7 => exact rfl
  case p8 => k_is
  case q3 =>
    intro vs S hl
    match vs, hl with
    | [v0, v1, v2, v3, v4], _ => exact rfl
  case q1 => decide
  case q2 => decide
  case q4 => exact fun h X => rfl
  case q5 => kernel_rfl
  case q6 => exact rfl
theorem is_mpf_sub' (w : World) (p : Program) (loose : List Str) (mg mb : Str → Option Value) : FnIs (cx w p loose mg mb) "mpf_sub" := by
  refine' fnIs' (K := hd.heap_39 w.params) ?hK ?g ?l ?d
  case hK => exact rfl
  case g => k_is
  case l => k_is
  case d => exact rfl
theorem t_mpf_sub4' (w : World) (p : Program) (loose : List Str) (mg mb : Str → Option Value) : ∀ (n : Nat) (x0 x1 x2 x3 d : D), qS (cx w p loose mg mb) n c_mpf_sub [some x0, some x1, some x2, some x3, none] (fun fl => fl = .rt d) → Tell (cx w p loose mg mb) (n + 1) "mpf_sub" [x0, x1, x2, x3] d := by
  intro n x0 x1 x2 x3 d h
  refine' tellOf' (K := hd.heap_39 w.params) (k := 60) (ps := ["s", "t", "prec", "rnd"]) (dd := []) (dv := []) ?hK ?g ?l ?p1 ?p2 ?p3 ?p4 ?p5 ?p6 ?p7 ?p8 ?q1 ?q2 ?q3 ?q4 ?q5 ?q6 h
  case hK => exact rfl
  case g => k_is
  case l => k_is
  case p1 => exact rfl
  case p2 => exact rfl
  case p3 => exact rfl
  case p4 => exact rfl
  case p5 => exact rfl
  case p6 => exact rfl
  case p7 => exact rfl
  case p8 => k_is
  case q3 =>
    intro vs S hl
    match vs, hl with
    | [v0, v1, v2, v3], _ => exact rfl
  case q1 => decide
  case q2 => decide
  case q4 => exact fun h X => rfl
  case q5 => kernel_rfl
  case q6 => exact rfl
theorem is_mpf_mul' (w : World) (p : Program) (loose : List Str) (mg mb : Str → Option Value) : FnIs (cx w p loose mg mb) "mpf_mul" := by
  refine' fnIs' (K := hd.heap_39 w.params) ?hK ?g ?l ?d
  case hK => exact rfl
  case g => k_is
  case l => k_is
  case d => exact rfl
theorem t_mpf_mul2' (w : World) (p : Program) (loose : List Str) (mg mb : Str → Option Value) : ∀ (n : Nat) (x0 x1 d : D), qS (cx w p loose mg mb) n c_mpf_mul [some x0, some x1, some (.int 0), some (.str "d"), none, none, none, none, none, none, none, none, none, none, none, none, none, none, none, none, none, none, none] (fun fl => fl = .rt d) → Tell (cx w p loose mg mb) (n + 1) "mpf_mul" [x0, x1] d := by
  intro n x0 x1 d h
  refine' tellOfD (K := hd.heap_39 w.params) (k := 60) (ps := ["s", "t", "prec", "rnd"]) (dd := [(.int 0), (.str "d")]) (j := 0) ?hK ?g ?l ?r1 ?r2 ?r3 ?p1 ?p2 ?p3 ?p4 ?p5 ?p6 ?p7 ?p8 ?q1 ?q2 ?q3 ?q4 ?q5 ?q6 h
  case hK => exact rfl
  case g => k_is
  case l => k_is
  case r1 => exact rfl
  case r2 => k_is
  case r3 => exact rfl
  case p1 => exact rfl
  case p2 => exact rfl
  case p3 => exact rfl
  case p4 => exact rfl
  case p5 => exact rfl
  case p6 => exact rfl
  case p7 => exact rfl
  case p8 => k_is
  case q3 =>
    intro vs S hl
    match vs, hl with
    | [v0, v1], _ => exact rfl
  case q1 => decide
  case q2 => decide
  case q4 => exact fun h X => ⟨_, _, rfl, ⟨_, rfl⟩, ⟨_, _, rfl, ⟨_, rfl⟩, rfl⟩⟩
  case q5 => kernel_rfl
  case q6 => exact rfl
theorem t_mpf_mul4' (w : World) (p : Program) (loose : List Str) (mg mb : Str → Option Value) : ∀ (n : Nat) (x0 x1 x2 x3 d : D), qS (cx w p loose mg mb) n c_mpf_mul [some x0, some x1, some x2, some x3, none, none, none, none, none, none, none, none, none, none, none, none, none, none, none, none, none, none, none] (fun fl => fl = .rt d) → Tell (cx w p loose mg mb) (n + 1) "mpf_mul" [x0, x1, x2, x3] d := by
  intro n x0 x1 x2 x3 d h
  refine' tellOf' (K := hd.heap_39 w.params) (k := 60) (ps := ["s", "t", "prec", "rnd"]) (dd := []) (dv := []) ?hK ?g ?l ?p1 ?p2 ?p3 ?p4 ?p5 ?p6 ?p7 ?p8 ?q1 ?q2 ?q3 ?q4 ?q5 ?q6 h
  case hK => exact rfl
  case g => k_is
  case l => k_is
  case p1 => exact rfl
  case p2 => exact rfl
  case p3 => exact rfl
  case p4 => exact rfl
  case p5 => exact rfl
  case p6 => exact rfl
  case p7 => exact rfl
  case p8 => k_is
  case q3 =>
    intro vs S hl
    match vs, hl with
    | [v0, v1, v2, v3], _ => exact rfl
  case q1 => decide
  case q2 => decide
  case q4 => exact fun h X => rfl
  case q5 => kernel_rfl
  case q6 => exact rfl
theorem is_mpf_div' (w : World) (p : Program) (loose : List Str) (mg mb : Str → Option Value) : FnIs (cx w p loose mg mb) "mpf_div" := by
  refine' fnIs' (K := hd.heap_39 w.params) ?hK ?g ?l ?d
  case hK => exact rfl
  case g => k_is
  case l => k_is
  case d => exact rfl
theorem t_mpf_div4' (w : World) (p : Program) (loose : List Str) (mg mb : Str → Option Value) : ∀ (n : Nat) (x0 x1 x2 x3 d : D), qS (cx w p loose mg mb) n c_mpf_div [some x0, some x1, some x2, some x3, none, none, none, none, none, none, none, none, none, none, none, none, none, none, none, none, none, none, none, none, none, none, none, none] (fun fl => fl = .rt d) → Tell (cx w p loose mg mb) (n + 1) "mpf_div" [x0, x1, x2, x3] d := by
  intro n x0 x1 x2 x3 d h
  refine' tellOf' (K := hd.heap_39 w.params) (k := 60) (ps := ["s", "t", "prec", "rnd"]) (dd := []) (dv := []) ?hK ?g ?l ?p1 ?p2 ?p3 ?p4 ?p5 ?p6 ?p7 ?p8 ?q1 ?q2 ?q3 ?q4 ?q5 ?q6 h
  case hK => exact rfl
  case g => k_is
  case l => k_is
  case p1 => exact rfl
  case p2 => exact rfl
  case p3 => exact rfl
  case p4 => exact rfl
  case p5 => exact rfl
  case p6 => exact rfl
  case p7 => exact rfl
  case p8 => k_is
  case q3 =>
    intro vs S hl
    match vs, hl with
    | [v0, v1, v2, v3], _ => exact rfl
  case q1 => decide
  case q2 => decide
  case q4 => exact fun h X => rfl
  case q5 => kernel_rfl
  case q6 => exact rfl
theorem is_mpf_pow_int' (w : World) (p : Program) (loose : List Str) (mg mb : Str → Option Value) : FnIs (cx w p loose mg mb) "mpf_pow_int" := by
  refine' fnIs' (K := hd.heap_39 w.params) ?hK ?g ?l ?d
  case hK => exact rfl
  case g => k_is
  case l => k_is
  case d => exact rfl
theorem t_mpf_pow_int4' (w : World) (p : Program) (loose : List Str) (mg mb : Str → Option Value) : ∀ (n : Nat) (x0 x1 x2 x3 d : D), qS (cx w p loose mg mb) n c_mpf_pow_int [some x0, some x1, some x2, some x3, none, none, none, none, none, none, none, none, none, none, none, none, none, none, none, none, none, none, none, none, none, none, none, none, none, none] (fun fl => fl = .rt d) → Tell (cx w p loose mg mb) (n + 1) "mpf_pow_int" [x0, x1, x2, x3] d := by
  intro n x0 x1 x2 x3 d h
  refine' tellOf' (K := hd.heap_39 w.params) (k := 60) (ps := ["s", "n", "prec", "rnd"]) (dd := []) (dv := []) ?hK ?g ?l ?p1 ?p2 ?p3 ?p4 ?p5 ?p6 ?p7 ?p8 ?q1 ?q2 ?q3 ?q4 ?q5 ?q6 h
  case hK => exact rfl
  case g => k_is
  case l => k_is
  case p1 => exact rfl
  case p2 => exact rfl
  case p3 => exact rfl
  case p4 => exact rfl
  case p5 => exact rfl
  case p6 => exact rfl
  case p7 => exact rfl
  case p8 => k_is
  case q3 =>
    intro vs S hl
    match vs, hl with
    | [v0, v1, v2, v3], _ => exact rfl
  case q1 => decide
  case q2 => decide
  case q4 => exact fun h X => rfl
  case q5 => kernel_rfl
  case q6 => exact rfl
theorem is_mpi_add' (w : World) (p : Program) (loose : List Str) (mg mb : Str → Option Value) : FnIs (cx w p loose mg mb) "mpi_add" := by
  refine' fnIs' (K := hd.heap_39 w.params) ?hK ?g ?l ?d
  case hK => exact rfl
  case g => k_is
  case l => k_is
  case d => exact rfl
theorem t_mpi_add3' (w : World) (p : Program) (loose : List Str) (mg mb : Str → Option Value) : ∀ (n : Nat) (x0 x1 x2 d : D), qS (cx w p loose mg mb) n c_mpi_add [some x0, some x1, some x2, none, none, none, none, none, none, none, none, none, none, none, none] (fun fl => fl = .rt d) → Tell (cx w p loose mg mb) (n + 1) "mpi_add" [x0, x1, x2] d := by
  intro n x0 x1 x2 d h
  refine' tellOf' (K := hd.heap_39 w.params) (k := 60) (ps := ["s", "t", "prec"]) (dd := []) (dv := []) ?hK ?g ?l ?p1 ?p2 ?p3 ?p4 ?p5 ?p6 ?p7 ?p8 ?q1 ?q2 ?q3 ?q4 ?q5 ?q6 h
  case hK => exact rfl
  case g => k_is
  case l => k_is
  case p1 => exact rfl
  case p2 => exact rfl
  case p3 => exact rfl
  case p4 => exact rfl
  case p5 => exact rfl
  case p6 => exact rfl
  case p7 => exact rfl
  case p8 => k_is
  case q3 =>
    intro vs S hl
    match vs, hl with
    | [v0, v1, v2], _ => exact rfl
  case q1 => decide
  case q2 => decide
  case q4 => exact fun h X => rfl
  case q5 => kernel_rfl
  case q6 => exact rfl
theorem is_mpi_sub' (w : World) (p : Program) (loose : List Str) (mg mb : Str → Option Value) : FnIs (cx w p loose mg mb) "mpi_sub" := by
  refine' fnIs' (K := hd.heap_39 w.params) ?hK ?g ?l ?d
  case hK => exact rfl
  case g => k_is
  case l => k_is
  case d => exact rfl
theorem t_mpi_sub3' (w : World) (p : Program) (loose : List Str) (mg mb : Str → Option Value) : ∀ (n : Nat) (x0 x1 x2 d : D), qS (cx w p loose mg mb) n c_mpi_sub [some x0, some x1, some x2, none, none, none, none, none, none, none, none, none, none, none, none] (fun fl => fl = .rt d) → Tell (cx w p loose mg mb) (n + 1) "mpi_sub" [x0, x1, x2] d := by
  intro n x0 x1 x2 d h
  refine' tellOf' (K := hd.heap_39 w.params) (k := 60) (ps := ["s", "t", "prec"]) (dd := []) (dv := []) ?hK ?g ?l ?p1 ?p2 ?p3 ?p4 ?p5 ?p6 ?p7 ?p8 ?q1 ?q2 ?q3 ?q4 ?q5 ?q6 h
  case hK => exact rfl
  case g => k_is
  case l => k_is
  case p1 => exact rfl
  case p2 => exact rfl
  case p3 => exact rfl
  case p4 => exact rfl
  case p5 => exact rfl
  case p6 => exact rfl
  case p7 => exact rfl
  case p8 => k_is
  case q3 =>
    intro vs S hl
    match vs, hl with
    | [v0, v1, v2], _ => exact rfl
  case q1 => decide
  case q2 => decide
  case q4 => exact fun h X => rfl
  case q5 => kernel_rfl
  case q6 => exact rfl
theorem is_mpi_neg' (w : World) (p : Program) (loose : List Str) (mg mb : Str → Option Value) : FnIs (cx w p loose mg mb) "mpi_neg" := by
  refine' fnIs' (K := hd.heap_39 w.params) ?hK ?g ?l ?d
  case hK => exact rfl
  case g => k_is
  case l => k_is
  case d => exact rfl
theorem t_mpi_neg1' (w : World) (p : Program) (loose : List Str) (mg mb : Str → Option Value) : ∀ (n : Nat) (x0 d : D), qS (cx w p loose mg mb) n c_mpi_neg [some x0, some (.int 0), none, none, none, none, none, none, none] (fun fl => fl = .rt d) → Tell (cx w p loose mg mb) (n + 1) "mpi_neg" [x0] d := by
  intro n x0 d h
  refine' tellOfD (K := hd.heap_39 w.params) (k := 60) (ps := ["s", "prec"]) (dd := [(.int 0)]) (j := 0) ?hK ?g ?l ?r1 ?r2 ?r3 ?p1 ?p2 ?p3 ?p4 ?p5 ?p6 ?p7 ?p8 ?q1 ?q2 ?q3 ?q4 ?q5 ?q6 h
  case hK => exact rfl
  case g => k_is
  case l => k_is
  case r1 => exact rfl
  case r2 => k_is
  case r3 => exact rfl
  case p1 => exact rfl
  case p2 => exact rfl
  case p3 => exact rfl
  case p4 => exact rfl
  case p5 => exact rfl
  case p6 => exact rfl
  case p7 => exact rfl
  case p8 => k_is
  case q3 =>
    intro vs S hl
    match vs, hl with
    | [v0], _ => exact rfl
  case q1 => decide
  case q2 => decide
  case q4 => exact fun h X => ⟨_, _, rfl, ⟨_, rfl⟩, rfl⟩
  case q5 => kernel_rfl
  case q6 => exact rfl
theorem t_mpi_neg2' (w : World) (p : Program) (loose : List Str) (mg mb : Str → Option Value) : ∀ (n : Nat) (x0 x1 d : D), qS (cx w p loose mg mb) n c_mpi_neg [some x0, some x1, none, none, none, none, none, none, none] (fun fl => fl = .rt d) → Tell (cx w p loose mg mb) (n + 1) "mpi_neg" [x0, x1] d := by
  intro n x0 x1 d h
  refine' tellOf' (K := hd.heap_39 w.params) (k := 60) (ps := ["s", "prec"]) (dd := []) (dv := []) ?hK ?g ?l ?p1 ?p2 ?p3 ?p4 ?p5 ?p6 ?p7 ?p8 ?q1 ?q2 ?q3 ?q4 ?q5 ?q6 h
  case hK => exact rfl
  case g => k_is
  case l => k_is
  case p1 => exact rfl
  case p2 => exact rfl
  case p3 => exact rfl
  case p4 => exact rfl
  case p5 => exact rfl
  case p6 => exact rfl
  case p7 => exact rfl
  case p8 => k_is
  case q3 =>
    intro vs S hl
    match vs, hl with
    | [v0, v1], _ => exact rfl
  case q1 => decide
  case q2 => decide
  case q4 => exact fun h X => rfl
  case q5 => kernel_rfl
  case q6 => exact rfl
theorem is_mpi_abs' (w : World) (p : Program) (loose : List Str) (mg mb : Str → Option Value) : FnIs (cx w p loose mg mb) "mpi_abs" := by
  refine' fnIs' (K := hd.heap_39 w.params) ?hK ?g ?l ?d
  case hK => exact rfl
  case g => k_is
  case l => k_is
  case d => exact rfl
theorem t_mpi_abs2' (w : World) (p : Program) (loose : List Str) (mg mb : Str → Option Value) : ∀ (n : Nat) (x0 x1 d : D), qS (cx w p loose mg mb) n c_mpi_abs [some x0, some x1, none, none, none, none, none, none, none, none, none, none, none, none, none, none] (fun fl => fl = .rt d) → Tell (cx w p loose mg mb) (n + 1) "mpi_abs" [x0, x1] d := by
  intro n x0 x1 d h
  refine' tellOf' (K := hd.heap_39 w.params) (k := 60) (ps := ["s", "prec"]) (dd := []) (dv := []) ?hK ?g ?l ?p1 ?p2 ?p3 ?p4 ?p5 ?p6 ?p7 ?p8 ?q1 ?q2 ?q3 ?q4 ?q5 ?q6 h
  case hK => exact rfl
  case g => k_is
  case l => k_is
  case p1 => exact rfl
  case p2 => exact rfl
  case p3 => exact rfl
  case p4 => exact rfl
  case p5 => exact rfl
  case p6 => exact rfl
  case p7 => exact rfl
  case p8 => k_is
  case q3 =>
    intro vs S hl
    match vs, hl with
    | [v0, v1], _ => exact rfl
  case q1 => decide
  case q2 => decide
  case q4 => exact fun h X => rfl
  case q5 => kernel_rfl
  case q6 => exact rfl
theorem is_mpi_mul' (w : World) (p : Program) (loose : List Str) (mg mb : Str → Option Value) : FnIs (cx w p loose mg mb) "mpi_mul" := by
  refine' fnIs' (K := hd.heap_39 w.params) ?hK ?g ?l ?d
  case hK => exact rfl
  case g => k_is
  case l => k_is
  case d => exact rfl
theorem t_mpi_mul3' (w : World) (p : Program) (loose : List Str) (mg mb : Str → Option Value) : ∀ (n : Nat) (x0 x1 x2 d : D), qS (cx w p loose mg mb) n c_mpi_mul [some x0, some x1, some x2, none, none, none, none, none, none, none, none, none, none, none, none, none, none, none, none, none, none, none, none, none] (fun fl => fl = .rt d) → Tell (cx w p loose mg mb) (n + 1) "mpi_mul" [x0, x1, x2] d := by
  intro n x0 x1 x2 d h
  refine' tellOf' (K := hd.heap_39 w.params) (k := 60) (ps := ["s", "t", "prec"]) (dd := []) (dv := []) ?hK ?g ?l ?p1 ?p2 ?p3 ?p4 ?p5 ?p6 ?p7 ?p8 ?q1 ?q2 ?q3 ?q4 ?q5 ?q6 h
  case hK => exact rfl
  case g => k_is
  case l => k_is
  case p1 => exact rfl
  case p2 => exact rfl
  case p3 => exact rfl
  case p4 => exact rfl
  case p5 => exact rfl
  case p6 => exact rfl
  case p7 => exact rfl
  case p8 => k_is
  case q3 =>
    intro vs S hl
    match vs, hl with
    | [v0, v1, v2], _ => exact rfl
  case q1 => decide
  case q2 => decide
  case q4 => exact fun h X => rfl
  case q5 => kernel_rfl
  case q6 => exact rfl
theorem is_mpi_square' (w : World) (p : Program) (loose : List Str) (mg mb : Str → Option Value) : FnIs (cx w p loose mg mb) "mpi_square" := by
  refine' fnIs' (K := hd.heap_39 w.params) ?hK ?g ?l ?d
  case hK => exact rfl
  case g => k_is
  case l => k_is
  case d => exact rfl
theorem t_mpi_square2' (w : World) (p : Program) (loose : List Str) (mg mb : Str → Option Value) : ∀ (n : Nat) (x0 x1 d : D), qS (cx w p loose mg mb) n c_mpi_square [some x0, some x1, none, none, none, none, none, none, none, none, none, none, none, none] (fun fl => fl = .rt d) → Tell (cx w p loose mg mb) (n + 1) "mpi_square" [x0, x1] d := by
  intro n x0 x1 d h
  refine' tellOf' (K := hd.heap_39 w.params) (k := 60) (ps := ["s", "prec"]) (dd := []) (dv := []) ?hK ?g ?l ?p1 ?p2 ?p3 ?p4 ?p5 ?p6 ?p7 ?p8 ?q1 ?q2 ?q3 ?q4 ?q5 ?q6 h
  case hK => exact rfl
  case g => k_is
  case l => k_is
  case p1 => exact rfl
  case p2 => exact rfl
  case p3 => exact rfl
  case p4 => exact rfl
  case p5 => exact rfl
  case p6 => exact rfl
  case p7 => exact rfl
  case p8 => k_is
  case q3 =>
    intro vs S hl
    match vs, hl with
    | [v0, v1], _ => exact rfl
  case q1 => decide
  case q2 => decide
  case q4 => exact fun h X => rfl
  case q5 => kernel_rfl
  case q6 => exact rfl
theorem is_mpi_div' (w : World) (p : Program) (loose : List Str) (mg mb : Str → Option Value) : FnIs (cx w p loose mg mb) "mpi_div" := by
  refine' fnIs' (K := hd.heap_39 w.params) ?hK ?g ?l ?d
  case hK => exact rfl
  case g => k_is
  case l => k_is
  case d => exact rfl
theorem t_mpi_div3' (w : World) (p : Program) (loose : List Str) (mg mb : Str → Option Value) : ∀ (n : Nat) (x0 x1 x2 d : D), qS (cx w p loose mg mb) n c_mpi_div [some x0, some x1, some x2, none, none, none, none, none, none, none, none, none, none, none, none, none, none, none, none, none, none, none, none] (fun fl => fl = .rt d) → Tell (cx w p loose mg mb) (n + 1) "mpi_div" [x0, x1, x2] d := by
  intro n x0 x1 x2 d h
  refine' tellOf' (K := hd.heap_39 w.params) (k := 60) (ps := ["s", "t", "prec"]) (dd := []) (dv := []) ?hK ?g ?l ?p1 ?p2 ?p3 ?p4 ?p5 ?p6 ?p7 ?p8 ?q1 ?q2 ?q3 ?q4 ?q5 ?q6 h
  case hK => exact rfl
  case g => k_is
  case l => k_is
  case p1 => exact rfl
  case p2 => exact rfl
  case p3 => exact rfl
  case p4 => exact rfl
  case p5 => exact rfl
  case p6 => exact rfl
  case p7 => exact rfl
  case p8 => k_is
  case q3 =>
    intro vs S hl
    match vs, hl with
    | [v0, v1, v2], _ => exact rfl
  case q1 => decide
  case q2 => decide
  case q4 => exact fun h X => rfl
  case q5 => kernel_rfl
  case q6 => exact rfl
theorem is_mpi_pow_int' (w : World) (p : Program) (loose : List Str) (mg mb : Str → Option Value) : FnIs (cx w p loose mg mb) "mpi_pow_int" := by
  refine' fnIs' (K := hd.heap_39 w.params) ?hK ?g ?l ?d
  case hK => exact rfl
  case g => k_is
  case l => k_is
  case d => exact rfl
theorem t_mpi_pow_int3' (w : World) (p : Program) (loose : List Str) (mg mb : Str → Option Value) : ∀ (n : Nat) (x0 x1 x2 d : D), qS (cx w p loose mg mb) n c_mpi_pow_int [some x0, some x1, some x2, none, none, none, none, none, none, none, none, none, none, none, none, none, none, none, none, none] (fun fl => fl = .rt d) → Tell (cx w p loose mg mb) (n + 1) "mpi_pow_int" [x0, x1, x2] d := by
  intro n x0 x1 x2 d h
  refine' tellOf' (K := hd.heap_39 w.params) (k := 60) (ps := ["s", "n", "prec"]) (dd := []) (dv := []) ?hK ?g ?l ?p1 ?p2 ?p3 ?p4 ?p5 ?p6 ?p7 ?p8 ?q1 ?q2 ?q3 ?q4 ?q5 ?q6 h
  case hK => exact rfl
  case g => k_is
  case l => k_is
  case p1 => exact rfl
  case p2 => exact rfl
  case p3 => exact rfl
  case p4 => exact rfl
  case p5 => exact rfl
  case p6 => exact rfl
  case p7 => exact rfl
  case p8 => k_is
  case q3 =>
    intro vs S hl
    match vs, hl with
    | [v0, v1, v2], _ => exact rfl
  case q1 => decide
  case q2 => decide
  case q4 => exact fun h X => rfl
  case q5 => kernel_rfl
  case q6 => exact rfl
theorem is_law_number' (w : World) (p : Program) (loose : List Str) (mg mb : Str → Option Value) : FnIs (cx w p loose mg mb) "_law_number" := by
  refine' fnIs' (K := hd.heap_39 w.params) ?hK ?g ?l ?d
  case hK => exact rfl
  case g => k_is
  case l => k_is
  case d => exact rfl
theorem t_law_number2' (w : World) (p : Program) (loose : List Str) (mg mb : Str → Option Value) : ∀ (n : Nat) (x0 x1 d : D), qS (cx w p loose mg mb) n c_law_number [some x0, some x1, none] (fun fl => fl = .rt d) → Tell (cx w p loose mg mb) (n + 1) "_law_number" [x0, x1] d := by
  intro n x0 x1 d h
  refine' tellOf' (K := hd.heap_39 w.params) (k := 60) (ps := ["script", "at"]) (dd := []) (dv := []) ?hK ?g ?l ?p1 ?p2 ?p3 ?p4 ?p5 ?p6 ?p7 ?p8 ?q1 ?q2 ?q3 ?q4 ?q5 ?q6 h
  case hK => exact rfl
  case g => k_is
  case l => k_is
  case p1 => exact rfl
  case p2 => exact rfl
  case p3 => exact rfl
  case p4 => exact rfl
  case p5 => exact rfl
  case p6 => exact rfl
  case p7 => exact rfl
  case p8 => k_is
  case q3 =>
    intro vs S hl
    match vs, hl with
    | [v0, v1], _ => exact rfl
  case q1 => decide
  case q2 => decide
  case q4 => exact fun h X => rfl
  case q5 => kernel_rfl
  case q6 => exact rfl
theorem is_law_drawn' (w : World) (p : Program) (loose : List Str) (mg mb : Str → Option Value) : FnIs (cx w p loose mg mb) "_law_drawn" := by
  refine' fnIs' (K := hd.heap_39 w.params) ?hK ?g ?l ?d
  case hK => exact rfl
  case g => k_is
  case l => k_is
  case d => exact rfl
theorem t_law_drawn2' (w : World) (p : Program) (loose : List Str) (mg mb : Str → Option Value) : ∀ (n : Nat) (x0 x1 d : D), qS (cx w p loose mg mb) n c_law_drawn [some x0, some x1, none, none, none] (fun fl => fl = .rt d) → Tell (cx w p loose mg mb) (n + 1) "_law_drawn" [x0, x1] d := by
  intro n x0 x1 d h
  refine' tellOf' (K := hd.heap_39 w.params) (k := 60) (ps := ["script", "at"]) (dd := []) (dv := []) ?hK ?g ?l ?p1 ?p2 ?p3 ?p4 ?p5 ?p6 ?p7 ?p8 ?q1 ?q2 ?q3 ?q4 ?q5 ?q6 h
  case hK => exact rfl
  case g => k_is
  case l => k_is
  case p1 => exact rfl
  case p2 => exact rfl
  case p3 => exact rfl
  case p4 => exact rfl
  case p5 => exact rfl
  case p6 => exact rfl
  case p7 => exact rfl
  case p8 => k_is
  case q3 =>
    intro vs S hl
    match vs, hl with
    | [v0, v1], _ => exact rfl
  case q1 => decide
  case q2 => decide
  case q4 => exact fun h X => rfl
  case q5 => kernel_rfl
  case q6 => exact rfl
theorem is_law_is_less' (w : World) (p : Program) (loose : List Str) (mg mb : Str → Option Value) : FnIs (cx w p loose mg mb) "_law_is_less" := by
  refine' fnIs' (K := hd.heap_39 w.params) ?hK ?g ?l ?d
  case hK => exact rfl
  case g => k_is
  case l => k_is
  case d => exact rfl
theorem t_law_is_less2' (w : World) (p : Program) (loose : List Str) (mg mb : Str → Option Value) : ∀ (n : Nat) (x0 x1 d : D), qS (cx w p loose mg mb) n c_law_is_less [some x0, some x1] (fun fl => fl = .rt d) → Tell (cx w p loose mg mb) (n + 1) "_law_is_less" [x0, x1] d := by
  intro n x0 x1 d h
  refine' tellOf' (K := hd.heap_39 w.params) (k := 60) (ps := ["one", "two"]) (dd := []) (dv := []) ?hK ?g ?l ?p1 ?p2 ?p3 ?p4 ?p5 ?p6 ?p7 ?p8 ?q1 ?q2 ?q3 ?q4 ?q5 ?q6 h
  case hK => exact rfl
  case g => k_is
  case l => k_is
  case p1 => exact rfl
  case p2 => exact rfl
  case p3 => exact rfl
  case p4 => exact rfl
  case p5 => exact rfl
  case p6 => exact rfl
  case p7 => exact rfl
  case p8 => k_is
  case q3 =>
    intro vs S hl
    match vs, hl with
    | [v0, v1], _ => exact rfl
  case q1 => decide
  case q2 => decide
  case q4 => exact fun h X => rfl
  case q5 => kernel_rfl
  case q6 => exact rfl
theorem is_law_sorted' (w : World) (p : Program) (loose : List Str) (mg mb : Str → Option Value) : FnIs (cx w p loose mg mb) "_law_sorted" := by
  refine' fnIs' (K := hd.heap_39 w.params) ?hK ?g ?l ?d
  case hK => exact rfl
  case g => k_is
  case l => k_is
  case d => exact rfl
theorem t_law_sorted1' (w : World) (p : Program) (loose : List Str) (mg mb : Str → Option Value) : ∀ (n : Nat) (x0 d : D), qS (cx w p loose mg mb) n c_law_sorted [some x0, none, none, none, none] (fun fl => fl = .rt d) → Tell (cx w p loose mg mb) (n + 1) "_law_sorted" [x0] d := by
  intro n x0 d h
  refine' tellOf' (K := hd.heap_39 w.params) (k := 60) (ps := ["values"]) (dd := []) (dv := []) ?hK ?g ?l ?p1 ?p2 ?p3 ?p4 ?p5 ?p6 ?p7 ?p8 ?q1 ?q2 ?q3 ?q4 ?q5 ?q6 h
  case hK => exact rfl
  case g => k_is
  case l => k_is
  case p1 => exact rfl
  case p2 => exact rfl
  case p3 => exact rfl
  case p4 => exact rfl
  case p5 => exact rfl
  case p6 => exact rfl
  case p7 => exact rfl
  case p8 => k_is
  case q3 =>
    intro vs S hl
    match vs, hl with
    | [v0], _ => exact rfl
  case q1 => decide
  case q2 => decide
  case q4 => exact fun h X => rfl
  case q5 => kernel_rfl
  case q6 => exact rfl
theorem is_law_told' (w : World) (p : Program) (loose : List Str) (mg mb : Str → Option Value) : FnIs (cx w p loose mg mb) "_law_told" := by
  refine' fnIs' (K := hd.heap_39 w.params) ?hK ?g ?l ?d
  case hK => exact rfl
  case g => k_is
  case l => k_is
  case d => exact rfl
theorem t_law_told2' (w : World) (p : Program) (loose : List Str) (mg mb : Str → Option Value) : ∀ (n : Nat) (x0 x1 d : D), qS (cx w p loose mg mb) n c_law_told [some x0, some x1, none, none, none] (fun fl => fl = .rt d) → Tell (cx w p loose mg mb) (n + 1) "_law_told" [x0, x1] d := by
  intro n x0 x1 d h
  refine' tellOf' (K := hd.heap_39 w.params) (k := 60) (ps := ["whole", "power"]) (dd := []) (dv := []) ?hK ?g ?l ?p1 ?p2 ?p3 ?p4 ?p5 ?p6 ?p7 ?p8 ?q1 ?q2 ?q3 ?q4 ?q5 ?q6 h
  case hK => exact rfl
  case g => k_is
  case l => k_is
  case p1 => exact rfl
  case p2 => exact rfl
  case p3 => exact rfl
  case p4 => exact rfl
  case p5 => exact rfl
  case p6 => exact rfl
  case p7 => exact rfl
  case p8 => k_is
  case q3 =>
    intro vs S hl
    match vs, hl with
    | [v0, v1], _ => exact rfl
  case q1 => decide
  case q2 => decide
  case q4 => exact fun h X => rfl
  case q5 => kernel_rfl
  case q6 => exact rfl
theorem is_law_end' (w : World) (p : Program) (loose : List Str) (mg mb : Str → Option Value) : FnIs (cx w p loose mg mb) "_law_end" := by
  refine' fnIs' (K := hd.heap_39 w.params) ?hK ?g ?l ?d
  case hK => exact rfl
  case g => k_is
  case l => k_is
  case d => exact rfl
theorem t_law_end3' (w : World) (p : Program) (loose : List Str) (mg mb : Str → Option Value) : ∀ (n : Nat) (x0 x1 x2 d : D), qS (cx w p loose mg mb) n c_law_end [some x0, some x1, some x2, none, none, none, none, none, none, none, none, none, none] (fun fl => fl = .rt d) → Tell (cx w p loose mg mb) (n + 1) "_law_end" [x0, x1, x2] d := by
  intro n x0 x1 x2 d h
  refine' tellOf' (K := hd.heap_39 w.params) (k := 60) (ps := ["value", "most", "is_up"]) (dd := []) (dv := []) ?hK ?g ?l ?p1 ?p2 ?p3 ?p4 ?p5 ?p6 ?p7 ?p8 ?q1 ?q2 ?q3 ?q4 ?q5 ?q6 h
  case hK => exact rfl
  case g => k_is
  case l => k_is
  case p1 => exact rfl
  case p2 => exact rfl
  case p3 => exact rfl
  case p4 => exact rfl
  case p5 => exact rfl
  case p6 => exact rfl
  case p7 => exact rfl
  case p8 => k_is
  case q3 =>
    intro vs S hl
    match vs, hl with
    | [v0, v1, v2], _ => exact rfl
  case q1 => decide
  case q2 => decide
  case q4 => exact fun h X => rfl
  case q5 => kernel_rfl
  case q6 => exact rfl
theorem is_law_outwards' (w : World) (p : Program) (loose : List Str) (mg mb : Str → Option Value) : FnIs (cx w p loose mg mb) "_law_outwards" := by
  refine' fnIs' (K := hd.heap_39 w.params) ?hK ?g ?l ?d
  case hK => exact rfl
  case g => k_is
  case l => k_is
  case d => exact rfl
theorem t_law_outwards2' (w : World) (p : Program) (loose : List Str) (mg mb : Str → Option Value) : ∀ (n : Nat) (x0 x1 d : D), qS (cx w p loose mg mb) n c_law_outwards [some x0, some x1, none, none, none, none] (fun fl => fl = .rt d) → Tell (cx w p loose mg mb) (n + 1) "_law_outwards" [x0, x1] d := by
  intro n x0 x1 d h
  refine' tellOf' (K := hd.heap_39 w.params) (k := 60) (ps := ["values", "most"]) (dd := []) (dv := []) ?hK ?g ?l ?p1 ?p2 ?p3 ?p4 ?p5 ?p6 ?p7 ?p8 ?q1 ?q2 ?q3 ?q4 ?q5 ?q6 h
  case hK => exact rfl
  case g => k_is
  case l => k_is
  case p1 => exact rfl
  case p2 => exact rfl
  case p3 => exact rfl
  case p4 => exact rfl
  case p5 => exact rfl
  case p6 => exact rfl
  case p7 => exact rfl
  case p8 => k_is
  case q3 =>
    intro vs S hl
    match vs, hl with
    | [v0, v1], _ => exact rfl
  case q1 => decide
  case q2 => decide
  case q4 => exact fun h X => rfl
  case q5 => kernel_rfl
  case q6 => exact rfl
theorem is_law_times' (w : World) (p : Program) (loose : List Str) (mg mb : Str → Option Value) : FnIs (cx w p loose mg mb) "_law_times" := by
  refine' fnIs' (K := hd.heap_39 w.params) ?hK ?g ?l ?d
  case hK => exact rfl
  case g => k_is
  case l => k_is
  case d => exact rfl
theorem t_law_times2' (w : World) (p : Program) (loose : List Str) (mg mb : Str → Option Value) : ∀ (n : Nat) (x0 x1 d : D), qS (cx w p loose mg mb) n c_law_times [some x0, some x1] (fun fl => fl = .rt d) → Tell (cx w p loose mg mb) (n + 1) "_law_times" [x0, x1] d := by
  intro n x0 x1 d h
  refine' tellOf' (K := hd.heap_39 w.params) (k := 60) (ps := ["one", "two"]) (dd := []) (dv := []) ?hK ?g ?l ?p1 ?p2 ?p3 ?p4 ?p5 ?p6 ?p7 ?p8 ?q1 ?q2 ?q3 ?q4 ?q5 ?q6 h
  case hK => exact rfl
  case g => k_is
  case l => k_is
  case p1 => exact rfl
  case p2 => exact rfl
  case p3 => exact rfl
  case p4 => exact rfl
  case p5 => exact rfl
  case p6 => exact rfl
  case p7 => exact rfl
  case p8 => k_is
  case q3 =>
    intro vs S hl
    match vs, hl with
    | [v0, v1], _ => exact rfl
  case q1 => decide
  case q2 => decide
  case q4 => exact fun h X => rfl
  case q5 => kernel_rfl
  case q6 => exact rfl
theorem is_law_by' (w : World) (p : Program) (loose : List Str) (mg mb : Str → Option Value) : FnIs (cx w p loose mg mb) "_law_by" := by
  refine' fnIs' (K := hd.heap_39 w.params) ?hK ?g ?l ?d
  case hK => exact rfl
  case g => k_is
  case l => k_is
  case d => exact rfl
theorem t_law_by2' (w : World) (p : Program) (loose : List Str) (mg mb : Str → Option Value) : ∀ (n : Nat) (x0 x1 d : D), qS (cx w p loose mg mb) n c_law_by [some x0, some x1, none] (fun fl => fl = .rt d) → Tell (cx w p loose mg mb) (n + 1) "_law_by" [x0, x1] d := by
  intro n x0 x1 d h
  refine' tellOf' (K := hd.heap_39 w.params) (k := 60) (ps := ["one", "two"]) (dd := []) (dv := []) ?hK ?g ?l ?p1 ?p2 ?p3 ?p4 ?p5 ?p6 ?p7 ?p8 ?q1 ?q2 ?q3 ?q4 ?q5 ?q6 h
  case hK => exact rfl
  case g => k_is
  case l => k_is
  case p1 => exact rfl
  case p2 => exact rfl
  case p3 => exact rfl
  case p4 => exact rfl
  case p5 => exact rfl
  case p6 => exact rfl
  case p7 => exact rfl
  case p8 => k_is
  case q3 =>
    intro vs S hl
    match vs, hl with
    | [v0, v1], _ => exact rfl
  case q1 => decide
  case q2 => decide
  case q4 => exact fun h X => rfl
  case q5 => kernel_rfl
  case q6 => exact rfl
theorem is_law_plus' (w : World) (p : Program) (loose : List Str) (mg mb : Str → Option Value) : FnIs (cx w p loose mg mb) "_law_plus" := by
  refine' fnIs' (K := hd.heap_39 w.params) ?hK ?g ?l ?d
  case hK => exact rfl
  case g => k_is
  case l => k_is
  case d => exact rfl
theorem t_law_plus3' (w : World) (p : Program) (loose : List Str) (mg mb : Str → Option Value) : ∀ (n : Nat) (x0 x1 x2 d : D), qS (cx w p loose mg mb) n c_law_plus [some x0, some x1, some x2] (fun fl => fl = .rt d) → Tell (cx w p loose mg mb) (n + 1) "_law_plus" [x0, x1, x2] d := by
  intro n x0 x1 x2 d h
  refine' tellOf' (K := hd.heap_39 w.params) (k := 60) (ps := ["one", "two", "side"]) (dd := []) (dv := []) ?hK ?g ?l ?p1 ?p2 ?p3 ?p4 ?p5 ?p6 ?p7 ?p8 ?q1 ?q2 ?q3 ?q4 ?q5 ?q6 h
  case hK => exact rfl
  case g => k_is
  case l => k_is
  case p1 => exact rfl
  case p2 => exact rfl
  case p3 => exact rfl
  case p4 => exact rfl
  case p5 => exact rfl
  case p6 => exact rfl
  case p7 => exact rfl
  case p8 => k_is
  case q3 =>
    intro vs S hl
    match vs, hl with
    | [v0, v1, v2], _ => exact rfl
  case q1 => decide
  case q2 => decide
  case q4 => exact fun h X => rfl
  case q5 => kernel_rfl
  case q6 => exact rfl
theorem is_law_quotient' (w : World) (p : Program) (loose : List Str) (mg mb : Str → Option Value) : FnIs (cx w p loose mg mb) "_law_quotient" := by
  refine' fnIs' (K := hd.heap_39 w.params) ?hK ?g ?l ?d
  case hK => exact rfl
  case g => k_is
  case l => k_is
  case d => exact rfl
theorem t_law_quotient3' (w : World) (p : Program) (loose : List Str) (mg mb : Str → Option Value) : ∀ (n : Nat) (x0 x1 x2 d : D), qS (cx w p loose mg mb) n c_law_quotient [some x0, some x1, some x2, none, none, none, none, none, none, none] (fun fl => fl = .rt d) → Tell (cx w p loose mg mb) (n + 1) "_law_quotient" [x0, x1, x2] d := by
  intro n x0 x1 x2 d h
  refine' tellOf' (K := hd.heap_39 w.params) (k := 60) (ps := ["one", "two", "most"]) (dd := []) (dv := []) ?hK ?g ?l ?p1 ?p2 ?p3 ?p4 ?p5 ?p6 ?p7 ?p8 ?q1 ?q2 ?q3 ?q4 ?q5 ?q6 h
  case hK => exact rfl
  case g => k_is
  case l => k_is
  case p1 => exact rfl
  case p2 => exact rfl
  case p3 => exact rfl
  case p4 => exact rfl
  case p5 => exact rfl
  case p6 => exact rfl
  case p7 => exact rfl
  case p8 => k_is
  case q3 =>
    intro vs S hl
    match vs, hl with
    | [v0, v1, v2], _ => exact rfl
  case q1 => decide
  case q2 => decide
  case q4 => exact fun h X => rfl
  case q5 => kernel_rfl
  case q6 => exact rfl
theorem is_law_quotients' (w : World) (p : Program) (loose : List Str) (mg mb : Str → Option Value) : FnIs (cx w p loose mg mb) "_law_quotients" := by
  refine' fnIs' (K := hd.heap_39 w.params) ?hK ?g ?l ?d
  case hK => exact rfl
  case g => k_is
  case l => k_is
  case d => exact rfl
theorem t_law_quotients3' (w : World) (p : Program) (loose : List Str) (mg mb : Str → Option Value) : ∀ (n : Nat) (x0 x1 x2 d : D), qS (cx w p loose mg mb) n c_law_quotients [some x0, some x1, some x2, none] (fun fl => fl = .rt d) → Tell (cx w p loose mg mb) (n + 1) "_law_quotients" [x0, x1, x2] d := by
  intro n x0 x1 x2 d h
  refine' tellOf' (K := hd.heap_39 w.params) (k := 60) (ps := ["one", "two", "most"]) (dd := []) (dv := []) ?hK ?g ?l ?p1 ?p2 ?p3 ?p4 ?p5 ?p6 ?p7 ?p8 ?q1 ?q2 ?q3 ?q4 ?q5 ?q6 h
  case hK => exact rfl
  case g => k_is
  case l => k_is
  case p1 => exact rfl
  case p2 => exact rfl
  case p3 => exact rfl
  case p4 => exact rfl
  case p5 => exact rfl
  case p6 => exact rfl
  case p7 => exact rfl
  case p8 => k_is
  case q3 =>
    intro vs S hl
    match vs, hl with
    | [v0, v1, v2], _ => exact rfl
  case q1 => decide
  case q2 => decide
  case q4 => exact fun h X => rfl
  case q5 => kernel_rfl
  case q6 => exact rfl
theorem is_law_power' (w : World) (p : Program) (loose : List Str) (mg mb : Str → Option Value) : FnIs (cx w p loose mg mb) "_law_power" := by
  refine' fnIs' (K := hd.heap_39 w.params) ?hK ?g ?l ?d
  case hK => exact rfl
  case g => k_is
  case l => k_is
  case d => exact rfl
theorem t_law_power2' (w : World) (p : Program) (loose : List Str) (mg mb : Str → Option Value) : ∀ (n : Nat) (x0 x1 d : D), qS (cx w p loose mg mb) n c_law_power [some x0, some x1] (fun fl => fl = .rt d) → Tell (cx w p loose mg mb) (n + 1) "_law_power" [x0, x1] d := by
  intro n x0 x1 d h
  refine' tellOf' (K := hd.heap_39 w.params) (k := 60) (ps := ["value", "times"]) (dd := []) (dv := []) ?hK ?g ?l ?p1 ?p2 ?p3 ?p4 ?p5 ?p6 ?p7 ?p8 ?q1 ?q2 ?q3 ?q4 ?q5 ?q6 h
  case hK => exact rfl
  case g => k_is
  case l => k_is
  case p1 => exact rfl
  case p2 => exact rfl
  case p3 => exact rfl
  case p4 => exact rfl
  case p5 => exact rfl
  case p6 => exact rfl
  case p7 => exact rfl
  case p8 => k_is
  case q3 =>
    intro vs S hl
    match vs, hl with
    | [v0, v1], _ => exact rfl
  case q1 => decide
  case q2 => decide
  case q4 => exact fun h X => rfl
  case q5 => kernel_rfl
  case q6 => exact rfl
theorem is_law_powers' (w : World) (p : Program) (loose : List Str) (mg mb : Str → Option Value) : FnIs (cx w p loose mg mb) "_law_powers" := by
  refine' fnIs' (K := hd.heap_39 w.params) ?hK ?g ?l ?d
  case hK => exact rfl
  case g => k_is
  case l => k_is
  case d => exact rfl
theorem t_law_powers3' (w : World) (p : Program) (loose : List Str) (mg mb : Str → Option Value) : ∀ (n : Nat) (x0 x1 x2 d : D), qS (cx w p loose mg mb) n c_law_powers [some x0, some x1, some x2, none, none, none, none] (fun fl => fl = .rt d) → Tell (cx w p loose mg mb) (n + 1) "_law_powers" [x0, x1, x2] d := by
  intro n x0 x1 x2 d h
  refine' tellOf' (K := hd.heap_39 w.params) (k := 60) (ps := ["one", "times", "most"]) (dd := []) (dv := []) ?hK ?g ?l ?p1 ?p2 ?p3 ?p4 ?p5 ?p6 ?p7 ?p8 ?q1 ?q2 ?q3 ?q4 ?q5 ?q6 h
  case hK => exact rfl
  case g => k_is
  case l => k_is
  case p1 => exact rfl
  case p2 => exact rfl
  case p3 => exact rfl
  case p4 => exact rfl
  case p5 => exact rfl
  case p6 => exact rfl
  case p7 => exact rfl
  case p8 => k_is
  case q3 =>
    intro vs S hl
    match vs, hl with
    | [v0, v1, v2], _ => exact rfl
  case q1 => decide
  case q2 => decide
  case q4 => exact fun h X => rfl
  case q5 => kernel_rfl
  case q6 => exact rfl
theorem is_law_made' (w : World) (p : Program) (loose : List Str) (mg mb : Str → Option Value) : FnIs (cx w p loose mg mb) "_law_made" := by
  refine' fnIs' (K := hd.heap_39 w.params) ?hK ?g ?l ?d
  case hK => exact rfl
  case g => k_is
  case l => k_is
  case d => exact rfl
theorem t_law_made1' (w : World) (p : Program) (loose : List Str) (mg mb : Str → Option Value) : ∀ (n : Nat) (x0 d : D), qS (cx w p loose mg mb) n c_law_made [some x0, none] (fun fl => fl = .rt d) → Tell (cx w p loose mg mb) (n + 1) "_law_made" [x0] d := by
  intro n x0 d h
  refine' tellOf' (K := hd.heap_39 w.params) (k := 60) (ps := ["one"]) (dd := []) (dv := []) ?hK ?g ?l ?p1 ?p2 ?p3 ?p4 ?p5 ?p6 ?p7 ?p8 ?q1 ?q2 ?q3 ?q4 ?q5 ?q6 h
  case hK => exact rfl
  case g => k_is
  case l => k_is
  case p1 => exact rfl
  case p2 => exact rfl
  case p3 => exact rfl
  case p4 => exact rfl
  case p5 => exact rfl
  case p6 => exact rfl
  case p7 => exact rfl
  case p8 => k_is
  case q3 =>
    intro vs S hl
    match vs, hl with
    | [v0], _ => exact rfl
  case q1 => decide
  case q2 => decide
  case q4 => exact fun h X => rfl
  case q5 => kernel_rfl
  case q6 => exact rfl
theorem is_law' (w : World) (p : Program) (loose : List Str) (mg mb : Str → Option Value) : FnIs (cx w p loose mg mb) "law" := by
  refine' fnIs' (K := hd.heap_39 w.params) ?hK ?g ?l ?d
  case hK => exact rfl
  case g => k_is
  case l => k_is
  case d => exact rfl
theorem t_law1' (w : World) (p : Program) (loose : List Str) (mg mb : Str → Option Value) : ∀ (n : Nat) (x0 d : D), qS (cx w p loose mg mb) n c_law [some x0, none, none, none, none, none, none, none, none, none, none, none, none, none, none, none, none, none, none, none, none, none, none, none, none] (fun fl => fl = .rt d) → Tell (cx w p loose mg mb) (n + 1) "law" [x0] d := by
  intro n x0 d h
  refine' tellOf' (K := hd.heap_39 w.params) (k := 60) (ps := ["script"]) (dd := []) (dv := []) ?hK ?g ?l ?p1 ?p2 ?p3 ?p4 ?p5 ?p6 ?p7 ?p8 ?q1 ?q2 ?q3 ?q4 ?q5 ?q6 h
  case hK => exact rfl
  case g => k_is
  case l => k_is
  case p1 => exact rfl
  case p2 => exact rfl
  case p3 => exact rfl
  case p4 => exact rfl
  case p5 => exact rfl
  case p6 => exact rfl
  case p7 => exact rfl
  case p8 => k_is
  case q3 =>
    intro vs S hl
    match vs, hl with
    | [v0], _ => exact rfl
  case q1 => decide
  case q2 => decide
  case q4 => exact fun h X => rfl
  case q5 => kernel_rfl
  case q6 => exact rfl
theorem g_fzero' (w : World) (p : Program) (loose : List Str) (mg mb : Str → Option Value) : GIs (cx w p loose mg mb) "fzero" (.tup [.int 0, .int 0, .int 0, .int 0]) := by
  refine' gTup (K := hd.heap_39 w.params) (ns := [0, 0, 0, 0]) ?hK ?e ?l ?hc ?hd ?hi
  case hK => exact rfl
  case e => k_is
  case l => k_is
  case hc => exact rfl
  case hd => exact rfl
  case hi => repeat constructor
theorem g_fone' (w : World) (p : Program) (loose : List Str) (mg mb : Str → Option Value) : GIs (cx w p loose mg mb) "fone" (.tup [.int 0, .int 1, .int 0, .int 1]) := by
  refine' gTup (K := hd.heap_39 w.params) (ns := [0, 1, 0, 1]) ?hK ?e ?l ?hc ?hd ?hi
  case hK => exact rfl
  case e => k_is
  case l => k_is
  case hc => exact rfl
  case hd => exact rfl
  case hi => repeat constructor
theorem g_fnan' (w : World) (p : Program) (loose : List Str) (mg mb : Str → Option Value) : GIs (cx w p loose mg mb) "fnan" (.tup [.int 0, .int 0, .int (-123), .int (-1)]) := by
  refine' gTup (K := hd.heap_39 w.params) (ns := [0, 0, -123, -1]) ?hK ?e ?l ?hc ?hd ?hi
  case hK => exact rfl
  case e => k_is
  case l => k_is
  case hc => exact rfl
  case hd => exact rfl
  case hi => repeat constructor
theorem g_finf' (w : World) (p : Program) (loose : List Str) (mg mb : Str → Option Value) : GIs (cx w p loose mg mb) "finf" (.tup [.int 0, .int 0, .int (-456), .int (-2)]) := by
  refine' gTup (K := hd.heap_39 w.params) (ns := [0, 0, -456, -2]) ?hK ?e ?l ?hc ?hd ?hi
  case hK => exact rfl
  case e => k_is
  case l => k_is
  case hc => exact rfl
  case hd => exact rfl
  case hi => repeat constructor
theorem g_fninf' (w : World) (p : Program) (loose : List Str) (mg mb : Str → Option Value) : GIs (cx w p loose mg mb) "fninf" (.tup [.int 1, .int 0, .int (-789), .int (-3)]) := by
  refine' gTup (K := hd.heap_39 w.params) (ns := [1, 0, -789, -3]) ?hK ?e ?l ?hc ?hd ?hi
  case hK => exact rfl
  case e => k_is
  case l => k_is
  case hc => exact rfl
  case hd => exact rfl
  case hi => repeat constructor
theorem g_round_floor' (w : World) (p : Program) (loose : List Str) (mg mb : Str → Option Value) : GIs (cx w p loose mg mb) "round_floor" (.str "f") := by
  refine' gStr (K := hd.heap_39 w.params) ?hK ?e
  case hK => exact rfl
  case e => k_is
theorem g_round_ceiling' (w : World) (p : Program) (loose : List Str) (mg mb : Str → Option Value) : GIs (cx w p loose mg mb) "round_ceiling" (.str "c") := by
  refine' gStr (K := hd.heap_39 w.params) ?hK ?e
  case hK => exact rfl
  case e => k_is
theorem g_round_nearest' (w : World) (p : Program) (loose : List Str) (mg mb : Str → Option Value) : GIs (cx w p loose mg mb) "round_nearest" (.str "n") := by
  refine' gStr (K := hd.heap_39 w.params) ?hK ?e
  case hK => exact rfl
  case e => k_is
theorem g_MPZ_ONE' (w : World) (p : Program) (loose : List Str) (mg mb : Str → Option Value) : GIs (cx w p loose mg mb) "MPZ_ONE" (.int 1) := by
  refine' gInt (K := hd.heap_39 w.params) ?hK ?e
  case hK => exact rfl
  case e => k_is
theorem sd_f' (w : World) (p : Program) (loose : List Str) (mg mb : Str → Option Value) : GDs (cx w p loose mg mb) "shifts_down" "f" (.tup [.int 1, .int 0]) := by
  refine' gDict (K := hd.heap_39 w.params) (ns := [1, 0]) ?hK ?e ?l ?hk ?hv ?l2 ?hc ?hd ?hi
  case hK => exact rfl
  case e => k_is
  case l => k_is
  case hv => exact rfl
  case l2 => k_is
  case hc => exact rfl
  case hd => exact rfl
  case hi => repeat constructor
  case hk =>
    intro e he
    simp only [List.mem_toArray, List.mem_cons, List.not_mem_nil, or_false] at he
    rcases he with rfl | rfl | rfl | rfl <;> exact ⟨_, rfl, rfl⟩
theorem sd_c' (w : World) (p : Program) (loose : List Str) (mg mb : Str → Option Value) : GDs (cx w p loose mg mb) "shifts_down" "c" (.tup [.int 0, .int 1]) := by
  refine' gDict (K := hd.heap_39 w.params) (ns := [0, 1]) ?hK ?e ?l ?hk ?hv ?l2 ?hc ?hd ?hi
  case hK => exact rfl
  case e => k_is
  case l => k_is
  case hv => exact rfl
  case l2 => k_is
  case hc => exact rfl
  case hd => exact rfl
  case hi => repeat constructor
  case hk =>
    intro e he
    simp only [List.mem_toArray, List.mem_cons, List.not_mem_nil, or_false] at he
    rcases he with rfl | rfl | rfl | rfl <;> exact ⟨_, rfl, rfl⟩
theorem prog (w : World) (p : Program) (loose : List Str) (mg mb : Str → Option Value) : Prog (cx w p loose mg mb) where
  is_trailing := is_trailing' w p loose mg mb
  t_trailing1 := t_trailing1' w p loose mg mb
  is_normalize0 := is_normalize0' w p loose mg mb
  t_normalize06 := t_normalize06' w p loose mg mb
  is_normalize := is_normalize' w p loose mg mb
  t_normalize6 := t_normalize6' w p loose mg mb
  is_from_man_exp := is_from_man_exp' w p loose mg mb
  t_from_man_exp2 := t_from_man_exp2' w p loose mg mb
  is_mpf_cmp := is_mpf_cmp' w p loose mg mb
  t_mpf_cmp2 := t_mpf_cmp2' w p loose mg mb
  is_mpf_lt := is_mpf_lt' w p loose mg mb
  t_mpf_lt2 := t_mpf_lt2' w p loose mg mb
  is_mpf_le := is_mpf_le' w p loose mg mb
  t_mpf_le2 := t_mpf_le2' w p loose mg mb
  is_mpf_gt := is_mpf_gt' w p loose mg mb
  t_mpf_gt2 := t_mpf_gt2' w p loose mg mb
  is_mpf_ge := is_mpf_ge' w p loose mg mb
  t_mpf_ge2 := t_mpf_ge2' w p loose mg mb
  is_mpf_min_max := is_mpf_min_max' w p loose mg mb
  t_mpf_min_max1 := t_mpf_min_max1' w p loose mg mb
  is_mpf_pos := is_mpf_pos' w p loose mg mb
  t_mpf_pos3 := t_mpf_pos3' w p loose mg mb
  is_mpf_neg := is_mpf_neg' w p loose mg mb
  t_mpf_neg1 := t_mpf_neg1' w p loose mg mb
  t_mpf_neg3 := t_mpf_neg3' w p loose mg mb
  is_mpf_sign := is_mpf_sign' w p loose mg mb
  t_mpf_sign1 := t_mpf_sign1' w p loose mg mb
  is_mpf_add := is_mpf_add' w p loose mg mb
  t_mpf_add4 := t_mpf_add4' w p loose mg mb
  t_mpf_add5 := t_mpf_add5' w p loose mg mb
  is_mpf_sub := is_mpf_sub' w p loose mg mb
  t_mpf_sub4 := t_mpf_sub4' w p loose mg mb
  is_mpf_mul := is_mpf_mul' w p loose mg mb
  t_mpf_mul2 := t_mpf_mul2' w p loose mg mb
  t_mpf_mul4 := t_mpf_mul4' w p loose mg mb
  is_mpf_div := is_mpf_div' w p loose mg mb
  t_mpf_div4 := t_mpf_div4' w p loose mg mb
  is_mpf_pow_int := is_mpf_pow_int' w p loose mg mb
  t_mpf_pow_int4 := t_mpf_pow_int4' w p loose mg mb
  is_mpi_add := is_mpi_add' w p loose mg mb
  t_mpi_add3 := t_mpi_add3' w p loose mg mb
  is_mpi_sub := is_mpi_sub' w p loose mg mb
  t_mpi_sub3 := t_mpi_sub3' w p loose mg mb
  is_mpi_neg := is_mpi_neg' w p loose mg mb
  t_mpi_neg1 := t_mpi_neg1' w p loose mg mb
  t_mpi_neg2 := t_mpi_neg2' w p loose mg mb
  is_mpi_abs := is_mpi_abs' w p loose mg mb
  t_mpi_abs2 := t_mpi_abs2' w p loose mg mb
  is_mpi_mul := is_mpi_mul' w p loose mg mb
  t_mpi_mul3 := t_mpi_mul3' w p loose mg mb
  is_mpi_square := is_mpi_square' w p loose mg mb
  t_mpi_square2 := t_mpi_square2' w p loose mg mb
  is_mpi_div := is_mpi_div' w p loose mg mb
  t_mpi_div3 := t_mpi_div3' w p loose mg mb
  is_mpi_pow_int := is_mpi_pow_int' w p loose mg mb
  t_mpi_pow_int3 := t_mpi_pow_int3' w p loose mg mb
  is_law_number := is_law_number' w p loose mg mb
  t_law_number2 := t_law_number2' w p loose mg mb
  is_law_drawn := is_law_drawn' w p loose mg mb
  t_law_drawn2 := t_law_drawn2' w p loose mg mb
  is_law_is_less := is_law_is_less' w p loose mg mb
  t_law_is_less2 := t_law_is_less2' w p loose mg mb
  is_law_sorted := is_law_sorted' w p loose mg mb
  t_law_sorted1 := t_law_sorted1' w p loose mg mb
  is_law_told := is_law_told' w p loose mg mb
  t_law_told2 := t_law_told2' w p loose mg mb
  is_law_end := is_law_end' w p loose mg mb
  t_law_end3 := t_law_end3' w p loose mg mb
  is_law_outwards := is_law_outwards' w p loose mg mb
  t_law_outwards2 := t_law_outwards2' w p loose mg mb
  is_law_times := is_law_times' w p loose mg mb
  t_law_times2 := t_law_times2' w p loose mg mb
  is_law_by := is_law_by' w p loose mg mb
  t_law_by2 := t_law_by2' w p loose mg mb
  is_law_plus := is_law_plus' w p loose mg mb
  t_law_plus3 := t_law_plus3' w p loose mg mb
  is_law_quotient := is_law_quotient' w p loose mg mb
  t_law_quotient3 := t_law_quotient3' w p loose mg mb
  is_law_quotients := is_law_quotients' w p loose mg mb
  t_law_quotients3 := t_law_quotients3' w p loose mg mb
  is_law_power := is_law_power' w p loose mg mb
  t_law_power2 := t_law_power2' w p loose mg mb
  is_law_powers := is_law_powers' w p loose mg mb
  t_law_powers3 := t_law_powers3' w p loose mg mb
  is_law_made := is_law_made' w p loose mg mb
  t_law_made1 := t_law_made1' w p loose mg mb
  is_law := is_law' w p loose mg mb
  t_law1 := t_law1' w p loose mg mb
  g_fzero := g_fzero' w p loose mg mb
  g_fone := g_fone' w p loose mg mb
  g_fnan := g_fnan' w p loose mg mb
  g_finf := g_finf' w p loose mg mb
  g_fninf := g_fninf' w p loose mg mb
  g_round_floor := g_round_floor' w p loose mg mb
  g_round_ceiling := g_round_ceiling' w p loose mg mb
  g_round_nearest := g_round_nearest' w p loose mg mb
  g_MPZ_ONE := g_MPZ_ONE' w p loose mg mb
  sd_f := sd_f' w p loose mg mb
  sd_c := sd_c' w p loose mg mb
end
section
open PySem PySem.W PyProof.Rows PySem.Calls
set_option maxRecDepth 100000 in
set_option maxHeartbeats 4000000 in
theorem bi_all (w : World) (p : Program) (loose : List Str) (mg mb : Str → Option Value) : ∀ x ∈ builtinsUsed, nsIn (cx w p loose mg mb).K mainGlobals x = some none := by
  show ∀ x ∈ builtinsUsed, nsIn (hd.heap_39 w.params) mainGlobals x = some none
  intro x hx
  simp only [builtinsUsed, List.mem_cons, List.not_mem_nil, or_false] at hx
  rcases hx with rfl | rfl | rfl | rfl | rfl | rfl
  · k_is
  · k_is
  · k_is
  · k_is
  · k_is
  · k_is
theorem claim_wraps {w : World} {p : Program} {loose : List Str} {mean : ExcName → Option Value} {mg mb : Str → Option Value} {s : Shared} {A : Around} {n : Nat} {fa a : Addr} {vs : List Value} {ns : List Int} {Q : Value → Shared → Prop} {E : Value → Shared → Prop}
    (KX : (hd.heap_39 w.params).In s.heap) (T : Top p loose mean mg mb s.heap) (hmg : mg "law" = some (.ref fa)) (hA : Ok (n + 13) A) (hL : s.heap.IsList a vs.toArray) (hI : IntsAre vs ns) (hl : ns.length ≤ 1000)
    (hQ : ∀ s', Chg s s' → Q (.bool true) s') : wpAny (model PySem.Challenge.rw_bw0034_01.prog w) A (PySem.call (.ref fa) [.ref a]) Q E s := by
  have P := prog w p loose mg mb
  obtain ⟨f, o, fd, g1, g2, g3⟩ := P.is_law
  have e := mg_of KX T.g g1
  have hfa : f = fa := by rw [hmg] at e; injection e with e; injection e with e; exact e.symm
  subst hfa
  have t := T_law P (n := n) (ns := ns) hl f g1 A E s [.ref a] ⟨KX, topRead_of T, bi_all w p loose mg mb⟩ hA ⟨.ref a, [], rfl, ⟨a, vs, rfl, hL, Reps.ints hI⟩, rfl⟩
  refine wpAny_mono t (fun v s' h => ?_) fun _ _ h => h
  obtain ⟨d, hr, hd, hc⟩ := h
  subst hd
  have hv : v = .bool true := hr
  subst hv
  exact hQ s' hc
end
end BW
open PySem PySem.W PyProof.Rows PySem.Calls
set_option maxRecDepth 100000 in
set_option maxHeartbeats 8000000 in
theorem PySem.Challenge.cw_bw0034_01_holds : PySem.Challenge.rw_bw0034_01.Holds :=
  BW.hd (by
  intro w s₀ s₁ mg mb G Y fa o pm cd doc dV kV ho hd' hcd hD hmg hg args vals as hpre hlay hrd hwl hlo
  have KX := kIn_of Y
  refine Ground.open G ?_
  intro T B D TE TW
  wrow_args hpre hlay hrd hwl hlo
  clear G Y D TE TW B ho hd' hcd hD
  rename_i a vs _ hL _ _ _ hI _ hle _
  refine BW.claim_wraps (n := 0) (s := s₁) KX T hmg ⟨rfl, by decide, by decide⟩ hL hI (by omega) ?_
  intro s' hc
  obtain ⟨h, tk, rfl, hx⟩ := hc
  refine ⟨.inl ⟨.bool true, .bool true, [], rfl, fun _ => rfl, .bool true, ?_, fun _ => ⟨List.nodup_nil, fun a ha => (nomatch ha)⟩⟩, OldK.of_keep hx, rfl, AllBare.of_eq hg⟩
  with_unfolding_all rfl)

