import PyProof.Rows.All
import Wide.All
import OpenK.AllK
import Wide.FinOn
import PySem.Builtin.Sre.Common
import PySem.Challenge.RW_xe0031_01
set_option Elab.async false
section
set_option genSizeOf false
set_option genInjectivity false
set_option maxRecDepth 100000
noncomputable section
namespace Mine
open PySem PySem.W
/-! abstract values, objects, store -/
/-- texts that hang on the pieces -/
inductive Sy where
  | pc (j : Nat)
  | lead (d : Nat)
  | wlead (d : Nat) (rev : Bool)
  | wtext (d : Nat) (rev : Bool) (c : Nat)
/-- lists of texts that hang on the pieces -/
inductive Rk where
  | runs (d : Nat) (rev : Bool)
  | init (d : Nat) (rev : Bool)
  | last (d : Nat)
inductive AV where
  | none
  | bool (b : Bool)
  | int (i : Int)
  | str (s : List Nat)
  | byt (b : List Nat)
  | ref (i : Nat)
  | aint
  | sint
  | npos
  | atl (c : Nat)
  | res (r j : Nat)
  | big (c j : Nat)
  | quo (j : Nat)
  | idx (j : Nat)
  | sym (y : Sy)
  | par (k : Nat)
noncomputable abbrev Loc := List (Nat × AV)
inductive AO where
  | list (vs : List AV)
  | tup (vs : List AV)
  | dictI (es : List (Int × AV)) (ep : Nat)
  | dictS (es : List (List Nat × AV))
  | mat (s : List Nat) (a b : Nat)
  | runs (k : Rk)
  | inst (j : Nat)
  | idict (es : List (Nat × AV))
  | wht (d i1 i2 i3 : Nat)
  | aux
inductive Tr where
  | nil
  | node (v : Option AO) (l r : Tr)
/-- plain ones: read and written alone -/
noncomputable def AO.plain : AO → Bool
  | .wht _ _ _ _ => false
  | .aux => false
  | _ => true
structure Store where
  n : Nat
  t : Tr
structure St where
  loc : Loc
  os : Store
/-- a number told before it is handed on -/
noncomputable def forceN {α : Type} (n : Nat) (c : Nat → α) : α := match n with
  | 0 => c 0
  | k + 1 => c (Nat.succ k)
theorem forceN_eq {α : Type} (n : Nat) (c : Nat → α) : forceN n c = c n := by cases n <;> rfl
noncomputable def forceI {α : Type} (i : Int) (c : Int → α) : α := match i with
  | .ofNat n => forceN n fun m => c (.ofNat m)
  | .negSucc n => forceN n fun m => c (.negSucc m)
theorem forceI_eq {α : Type} (i : Int) (c : Int → α) : forceI i c = c i := by
  cases i with
  | ofNat n => exact forceN_eq n fun m => c (.ofNat m)
  | negSucc n => exact forceN_eq n fun m => c (.negSucc m)
namespace Tr
noncomputable def get : Tr → Nat → Option AO
  | .nil, _ => none
  | .node v l r, i => match Nat.beq i 0 with
    | true => v
    | false => match Nat.beq (i % 2) 1 with
      | true => l.get (i / 2)
      | false => r.get (i / 2 - 1)
noncomputable def put (o : AO) : Nat → Tr → Nat → Tr
  | 0, t, _ => t
  | f + 1, .nil, i => match Nat.beq i 0 with
    | true => .node (some o) .nil .nil
    | false => match Nat.beq (i % 2) 1 with
      | true => .node none (put o f .nil (i / 2)) .nil
      | false => .node none .nil (put o f .nil (i / 2 - 1))
  | f + 1, .node v l r, i => match Nat.beq i 0 with
    | true => .node (some o) l r
    | false => match Nat.beq (i % 2) 1 with
      | true => .node v (put o f l (i / 2)) r
      | false => .node v l (put o f r (i / 2 - 1))
theorem beq_eq (a b : Nat) : Nat.beq a b = decide (a = b) := by
  rw [Bool.eq_iff_iff, Nat.beq_eq]; simp
theorem get_node (v : Option AO) (l r : Tr) (i : Nat) : (node v l r).get i = if i = 0 then v else if i % 2 = 1 then l.get (i / 2) else r.get (i / 2 - 1) := by
  show (match Nat.beq i 0 with | true => v | false => match Nat.beq (i % 2) 1 with | true => l.get (i / 2) | false => r.get (i / 2 - 1)) = _
  rw [beq_eq, beq_eq]
  by_cases h : i = 0
  · simp [h]
  · by_cases q : i % 2 = 1 <;> simp [h, q]
theorem put_nil (o : AO) (f i : Nat) : put o (f + 1) .nil i = if i = 0 then .node (some o) .nil .nil else if i % 2 = 1 then .node none (put o f .nil (i / 2)) .nil else .node none .nil (put o f .nil (i / 2 - 1)) := by
  show (match Nat.beq i 0 with | true => _ | false => match Nat.beq (i % 2) 1 with | true => _ | false => _) = _
  rw [beq_eq, beq_eq]
  by_cases h : i = 0
  · simp [h]
  · by_cases q : i % 2 = 1 <;> simp [h, q]
theorem put_node (o : AO) (f i : Nat) (v : Option AO) (l r : Tr) : put o (f + 1) (.node v l r) i = if i = 0 then .node (some o) l r else if i % 2 = 1 then .node v (put o f l (i / 2)) r else .node v l (put o f r (i / 2 - 1)) := by
  show (match Nat.beq i 0 with | true => _ | false => match Nat.beq (i % 2) 1 with | true => _ | false => _) = _
  rw [beq_eq, beq_eq]
  by_cases h : i = 0
  · simp [h]
  · by_cases q : i % 2 = 1 <;> simp [h, q]
theorem get_put_ne (o : AO) : ∀ (f : Nat) (t : Tr) (i j : Nat), j ≠ i → (put o f t i).get j = t.get j
  | 0, _, _, _, _ => rfl
  | f + 1, .nil, i, j, h => by
    rw [put_nil]
    by_cases hi : i = 0
    · rw [if_pos hi, get_node, if_neg (by omega)]; split <;> rfl
    · rw [if_neg hi]
      by_cases q : i % 2 = 1
      · rw [if_pos q, get_node]
        by_cases hj : j = 0
        · rw [if_pos hj]; rfl
        · rw [if_neg hj]
          by_cases p : j % 2 = 1
          · rw [if_pos p, get_put_ne o f .nil _ _ (by omega)]; rfl
          · rw [if_neg p]; rfl
      · rw [if_neg q, get_node]
        by_cases hj : j = 0
        · rw [if_pos hj]; rfl
        · rw [if_neg hj]
          by_cases p : j % 2 = 1
          · rw [if_pos p]; rfl
          · rw [if_neg p, get_put_ne o f .nil _ _ (by omega)]; rfl
  | f + 1, .node v l r, i, j, h => by
    rw [put_node]
    by_cases hi : i = 0
    · rw [if_pos hi, get_node, get_node, if_neg (show ¬ j = 0 by omega), if_neg (show ¬ j = 0 by omega)]
    · rw [if_neg hi]
      by_cases q : i % 2 = 1
      · rw [if_pos q, get_node, get_node]
        by_cases hj : j = 0
        · rw [if_pos hj, if_pos hj]
        · rw [if_neg hj, if_neg hj]
          by_cases p : j % 2 = 1
          · rw [if_pos p, if_pos p, get_put_ne o f l _ _ (by omega)]
          · rw [if_neg p, if_neg p]
      · rw [if_neg q, get_node, get_node]
        by_cases hj : j = 0
        · rw [if_pos hj, if_pos hj]
        · rw [if_neg hj, if_neg hj]
          by_cases p : j % 2 = 1
          · rw [if_pos p, if_pos p]
          · rw [if_neg p, if_neg p, get_put_ne o f r _ _ (by omega)]
theorem get_put_self (o : AO) : ∀ (f : Nat) (t : Tr) (i : Nat), i + 1 < 2 ^ f → (put o f t i).get i = some o
  | 0, _, i, h => by simp at h
  | f + 1, .nil, i, h => by
    rw [Nat.pow_succ] at h
    rw [put_nil]
    by_cases hi : i = 0
    · rw [if_pos hi, get_node, if_pos hi]
    · rw [if_neg hi]
      by_cases q : i % 2 = 1
      · rw [if_pos q, get_node, if_neg hi, if_pos q]; exact get_put_self o f .nil _ (by omega)
      · rw [if_neg q, get_node, if_neg hi, if_neg q]; exact get_put_self o f .nil _ (by omega)
  | f + 1, .node v l r, i, h => by
    rw [Nat.pow_succ] at h
    rw [put_node]
    by_cases hi : i = 0
    · rw [if_pos hi, get_node, if_pos hi]
    · rw [if_neg hi]
      by_cases q : i % 2 = 1
      · rw [if_pos q, get_node, if_neg hi, if_pos q]; exact get_put_self o f l _ (by omega)
      · rw [if_neg q, get_node, if_neg hi, if_neg q]; exact get_put_self o f r _ (by omega)
/-- the same by the recursor -/
noncomputable def getF (t : Tr) : Nat → Option AO := Tr.rec (motive := fun _ => Nat → Option AO) (fun _ => none)
  (fun v _ _ gl gr i => Bool.rec (Bool.rec (gr (Nat.pred (Nat.div i (nat_lit 2)))) (gl (Nat.div i (nat_lit 2))) (Nat.beq (Nat.mod i (nat_lit 2)) (nat_lit 1))) v (Nat.beq i (nat_lit 0))) t
theorem getF_eq : ∀ (t : Tr) (i : Nat), getF t i = t.get i
  | .nil, _ => rfl
  | .node v l r, i => by
    show Bool.rec (motive := fun _ => Option AO) (Bool.rec (motive := fun _ => Option AO) (getF r (i / 2 - 1)) (getF l (i / 2)) (Nat.beq (i % 2) 1)) v (Nat.beq i 0) = (match Nat.beq i 0 with | true => v | false => match Nat.beq (i % 2) 1 with | true => l.get (i / 2) | false => r.get (i / 2 - 1))
    rw [getF_eq l, getF_eq r]
    cases Nat.beq i 0 <;> cases Nat.beq (i % 2) 1 <;> rfl
noncomputable def putN {α : Type} (o : AO) (f : Nat) : Nat → (Tr → α) → α := Nat.rec (motive := fun _ => Nat → (Tr → α) → α) (fun _ c => c .nil)
  (fun _ ih i c => Bool.rec (Bool.rec (forceN (Nat.pred (Nat.div i (nat_lit 2))) fun j => ih j fun t => c (.node none .nil t)) (forceN (Nat.div i (nat_lit 2)) fun j => ih j fun t => c (.node none t .nil)) (Nat.beq (Nat.mod i (nat_lit 2)) (nat_lit 1)))
    (c (.node (some o) .nil .nil)) (Nat.beq i (nat_lit 0))) f
noncomputable def putF {α : Type} (o : AO) (t : Tr) : Nat → Nat → (Tr → α) → α := Tr.rec (motive := fun _ => Nat → Nat → (Tr → α) → α) (fun f i c => putN o f i c)
  (fun v l r pl pr f i c => match f with
    | 0 => c (.node v l r)
    | f + 1 => Bool.rec (Bool.rec (forceN (Nat.pred (Nat.div i (nat_lit 2))) fun j => pr f j fun t => c (.node v l t)) (forceN (Nat.div i (nat_lit 2)) fun j => pl f j fun t => c (.node v t r)) (Nat.beq (Nat.mod i (nat_lit 2)) (nat_lit 1)))
      (c (.node (some o) l r)) (Nat.beq i (nat_lit 0))) t
theorem putN_eq {α : Type} (o : AO) : ∀ (f i : Nat) (c : Tr → α), putN o f i c = c (put o f .nil i)
  | 0, _, _ => rfl
  | f + 1, i, c => by
    show Bool.rec (motive := fun _ => α) (Bool.rec (motive := fun _ => α) (forceN (i / 2 - 1) fun j => putN o f j fun t => c (.node none .nil t)) (forceN (i / 2) fun j => putN o f j fun t => c (.node none t .nil)) (Nat.beq (i % 2) 1)) (c (.node (some o) .nil .nil)) (Nat.beq i 0) = _
    rw [forceN_eq, forceN_eq, putN_eq o f, putN_eq o f]
    rw [put_nil, beq_eq, beq_eq]
    by_cases h : i = 0
    · simp [h]
    · by_cases q : i % 2 = 1 <;> simp [h, q]
theorem putF_eq {α : Type} (o : AO) : ∀ (t : Tr) (f i : Nat) (c : Tr → α), putF o t f i c = c (put o f t i)
  | .nil, f, i, c => putN_eq o f i c
  | .node v l r, 0, i, c => rfl
  | .node v l r, f + 1, i, c => by
    show Bool.rec (motive := fun _ => α) (Bool.rec (motive := fun _ => α) (forceN (i / 2 - 1) fun j => putF o r f j fun t => c (.node v l t)) (forceN (i / 2) fun j => putF o l f j fun t => c (.node v t r)) (Nat.beq (i % 2) 1)) (c (.node (some o) l r)) (Nat.beq i 0) = _
    rw [forceN_eq, forceN_eq, putF_eq o r, putF_eq o l]
    rw [put_node, beq_eq, beq_eq]
    by_cases h : i = 0
    · simp [h]
    · by_cases q : i % 2 = 1 <;> simp [h, q]
end Tr
namespace Store
noncomputable def get (s : Store) (i : Nat) : Option AO := match s with
  | ⟨_, t⟩ => Tr.getF t i
theorem get_is (s : Store) (i : Nat) : s.get i = s.t.get i := Tr.getF_eq s.t i
/-- a new object; none beyond 4000 -/
noncomputable def new (s : Store) (o : AO) : Option (AV × Store) := match s with
  | ⟨n, t⟩ => match Nat.blt n (nat_lit 4000) with
    | true => forceN (Nat.succ n) fun m => Tr.putF o t (nat_lit 12) n fun t' => some (.ref n, ⟨m, t'⟩)
    | false => none
noncomputable def set (s : Store) (i : Nat) (o : AO) : Option Store := match s with
  | ⟨n, t⟩ => match Nat.blt i (nat_lit 4000) with
    | true => Tr.putF o t (nat_lit 12) i fun t' => some ⟨n, t'⟩
    | false => none
theorem new_is (s : Store) (o : AO) : s.new o = match Nat.blt s.n 4000 with
  | true => some (.ref s.n, ⟨Nat.succ s.n, s.t.put o 12 s.n⟩)
  | false => none := by
  cases s with
  | mk n t =>
    unfold new
    dsimp only
    show (match Nat.blt n 4000 with | true => _ | false => none) = _
    cases Nat.blt n 4000 with
    | true =>
      show forceN (Nat.succ n) _ = _
      rw [forceN_eq]; exact Tr.putF_eq o t 12 n _
    | false => rfl
theorem set_is (s : Store) (i : Nat) (o : AO) : s.set i o = match Nat.blt i 4000 with
  | true => some ⟨s.n, s.t.put o 12 i⟩
  | false => none := by
  cases s with
  | mk n t =>
    unfold set
    dsimp only
    show (match Nat.blt i 4000 with | true => _ | false => none) = _
    cases Nat.blt i 4000 with
    | true => exact Tr.putF_eq o t 12 i _
    | false => rfl
theorem blt_eq (a b : Nat) : Nat.blt a b = decide (a < b) := by
  rw [Bool.eq_iff_iff]; simp [Nat.blt, Nat.ble_eq]; omega
theorem new_eq {s s' : Store} {o : AO} {v : AV} (h : s.new o = some (v, s')) : v = .ref s.n ∧ s'.n = s.n + 1 ∧ s'.get s.n = some o ∧ ∀ j, j ≠ s.n → s'.get j = s.get j := by
  rw [new_is, blt_eq] at h
  by_cases q : s.n < 4000
  · simp only [q, decide_true, Option.some.injEq, Prod.mk.injEq] at h
    obtain ⟨rfl, rfl⟩ := h
    exact ⟨rfl, rfl, by rw [get_is]; exact Tr.get_put_self o 12 _ _ (by omega), fun j hj => by rw [get_is, get_is]; exact Tr.get_put_ne o 12 _ _ _ hj⟩
  · simp only [q, decide_false] at h; cases h
theorem set_eq {s s' : Store} {o : AO} {i : Nat} (h : s.set i o = some s') : s'.n = s.n ∧ s'.get i = some o ∧ ∀ j, j ≠ i → s'.get j = s.get j := by
  rw [set_is, blt_eq] at h
  by_cases q : i < 4000
  · simp only [q, decide_true, Option.some.injEq] at h
    subst h
    exact ⟨rfl, by rw [get_is]; exact Tr.get_put_self o 12 _ _ (by omega), fun j hj => by rw [get_is, get_is]; exact Tr.get_put_ne o 12 _ _ _ hj⟩
  · simp only [q, decide_false] at h; cases h
end Store
/-! names -/
noncomputable def nmL : List Str := [Str.ofString "script", Str.ofString "heaps", Str.ofString "above", Str.ofString "pieces", Str.ofString "found", Str.ofString "below", Str.ofString "run", Str.ofString "start", Str.ofString "x", Str.ofString "k", Str.ofString "heap", Str.ofString "loose", Str.ofString "cut", Str.ofString "one", Str.ofString "path", Str.ofString "told", Str.ofString "mails", Str.ofString "sent", Str.ofString "mail", Str.ofString "pile", Str.ofString "row", Str.ofString "octet", Str.ofString "dots", Str.ofString "runs", Str.ofString "white", Str.ofString "brother", Str.ofString "address", Str.ofString "needs", Str.ofString "need", Str.ofString "place", Str.ofString "held", Str.ofString "places", Str.ofString "counts", Str.ofString "turn", Str.ofString "refusal", Str.ofString "rows", Str.ofString "bits", Str.ofString "states", Str.ofString "later", Str.ofString "state", Str.ofString "most", Str.ofString "bit", Str.ofString "wanted", Str.ofString "count", Str.ofString "now", Str.ofString "high", Str.ofString "match", Str.ofString "end", Str.ofString "text", Str.ofString "bindata", Str.ofString "self", Str.ofString "ws", Str.ofString "S", Str.ofString "T", Str.ofString "b", Str.ofString "n", Str.ofString "nt", Str.ofString "ch", Str.ofString "other", Str.ofString "ts", Str.ofString "il", Str.ofString "i", Str.ofString "tabsize", Str.ofString "trailing", Str.ofString "recipients"]
noncomputable def nm (k : Nat) : Str := nmL.getD k (Str.ofString "")
theorem nm_inj : ∀ a b, a < 65 → b < 65 → nm a = nm b → a = b := by
  have h : (List.range 65).all (fun a => (List.range 65).all fun b => a == b || !decide (nm a = nm b)) = true := by decide +kernel
  intro a b ha hb e
  rw [List.all_eq_true] at h
  have h1 := h a (List.mem_range.mpr ha)
  rw [List.all_eq_true] at h1
  have h2 := h1 b (List.mem_range.mpr hb)
  simp only [e, decide_true, Bool.not_true, Bool.or_false, beq_iff_eq] at h2
  exact h2
/-! the pieces, told by a list of 0, 1, 2 -/
noncomputable def pieceS : Nat → List Nat
  | 0 => [32]
  | 1 => [9]
  | _ => [32, 9]
noncomputable def pcS (cs : List Nat) (j : Nat) : List Nat := match j with
  | 0 => [9]
  | k + 1 => pieceS (cs.getD k 0)
/-- the first runs of spaces, and the last -/
noncomputable def runsOf (cs : List Nat) : Nat → List Nat × Nat
  | 0 => ([], 0)
  | d + 1 => match runsOf cs d with
    | (p, l) => match pcS cs d with
      | [32] => (p, l + 1)
      | [9] => (p ++ [l], 0)
      | _ => (p ++ [l + 1], 0)
noncomputable def leadS (cs : List Nat) : Nat → List Nat
  | 0 => []
  | d + 1 => leadS cs d ++ pcS cs d
noncomputable def spaces (n : Nat) : List Nat := List.replicate n 32
noncomputable def initS (cs : List Nat) (d : Nat) (rev : Bool) : List (List Nat) := match rev with
  | true => ((runsOf cs d).1.map spaces).reverse
  | false => (runsOf cs d).1.map spaces
noncomputable def lastS (cs : List Nat) (d : Nat) : List Nat := spaces (runsOf cs d).2
noncomputable def wleadS (cs : List Nat) (d : Nat) (rev : Bool) : List Nat := ((initS cs d rev).map (· ++ [9])).flatten ++ lastS cs d
noncomputable def syS (cs : List Nat) : Sy → List Nat
  | .pc j => pcS cs j
  | .lead d => leadS cs d
  | .wlead d rev => wleadS cs d rev
  | .wtext d rev c => wleadS cs d rev ++ [c]
noncomputable def rkS (cs : List Nat) : Rk → List (List Nat)
  | .runs d rev => initS cs d rev ++ [lastS cs d]
  | .init d rev => initS cs d rev
  | .last d => [lastS cs d]
/-- what a Whitespace of that lead bears -/
noncomputable def wNt (cs : List Nat) (d : Nat) : Nat := (runsOf cs d).1.length
noncomputable def wN (cs : List Nat) (d : Nat) : Nat := (runsOf cs d).1.sum + (runsOf cs d).2 + wNt cs d
noncomputable def wTr (cs : List Nat) (d : Nat) : Nat := (runsOf cs d).2
noncomputable def wCount (cs : List Nat) (d : Nat) : List Nat := (List.range (match (runsOf cs d).1.max? with | some m => m + 1 | none => 0)).map fun i => (runsOf cs d).1.count i
noncomputable def atL : List Str := [Str.ofString "raw", Str.ofString "n", Str.ofString "nt", Str.ofString "norm", Str.ofString "is_simple"]
noncomputable def atN (k : Nat) : Str := atL.getD k (Str.ofString "")
noncomputable def whtObj (cs : List Nat) (d k : Nat) : List AO :=
  [.inst (k + 1), .idict [(1, .int (wN cs d)), (2, .int (wNt cs d)), (3, .ref (k + 2)), (4, .bool (Nat.ble (wCount cs d).length 1))], .tup [.ref (k + 3), .int (wTr cs d)], .tup ((wCount cs d).map fun n => .int (.ofNat n))]
noncomputable def lk (k : Nat) (l : Loc) : Option AV := List.rec (motive := fun _ => Option AV) none (fun p _ ih => Prod.rec (fun j v => Bool.rec ih (some v) (Nat.beq k j)) p) l
theorem lk_nil (k : Nat) : lk k [] = none := rfl
noncomputable def has (k : Nat) (l : Loc) : Bool := List.rec (motive := fun _ => Bool) false (fun p _ ih => Prod.rec (fun j _ => Bool.rec ih true (Nat.beq k j)) p) l
theorem has_cons (k j : Nat) (u : AV) (r : Loc) : has k ((j, u) :: r) = match Nat.beq k j with
    | true => true
    | false => has k r := by
  show Bool.rec (motive := fun _ => Bool) (has k r) true (Nat.beq k j) = _
  cases Nat.beq k j <;> rfl
noncomputable def rep (k : Nat) (v : AV) : Loc → Loc
  | [] => []
  | (j, u) :: r => match Nat.beq k j with
    | true => (j, v) :: r
    | false => (j, u) :: rep k v r
/-- a name bound anew stands first -/
noncomputable def bnd (k : Nat) (v : AV) (l : Loc) : Loc := match has k l with
  | true => rep k v l
  | false => (k, v) :: l
noncomputable def repK {α : Type} (k : Nat) (v : AV) (l : Loc) : (Loc → α) → α := List.rec (motive := fun _ => (Loc → α) → α) (fun c => c [])
  (fun p r ih c => Prod.rec (fun j u => Bool.rec (ih fun r' => c ((j, u) :: r')) (c ((j, v) :: r)) (Nat.beq k j)) p) l
theorem repK_eq {α : Type} (k : Nat) (v : AV) : ∀ (l : Loc) (c : Loc → α), repK k v l c = c (rep k v l)
  | [], _ => rfl
  | (j, u) :: r, c => by
    show Bool.rec (motive := fun _ => α) (repK k v r fun r' => c ((j, u) :: r')) (c ((j, v) :: r)) (Nat.beq k j) = _
    unfold rep
    cases Nat.beq k j with
    | true => rfl
    | false => exact repK_eq k v r _
noncomputable def bndK {α : Type} (k : Nat) (v : AV) (l : Loc) (c : Loc → α) : α := match has k l with
  | true => repK k v l c
  | false => c ((k, v) :: l)
theorem bndK_eq {α : Type} (k : Nat) (v : AV) (l : Loc) (c : Loc → α) : bndK k v l c = c (bnd k v l) := by
  unfold bndK bnd
  cases has k l with
  | true => exact repK_eq k v l c
  | false => rfl
theorem lk_cons (j i : Nat) (u : AV) (r : Loc) : lk j ((i, u) :: r) = if j = i then some u else lk j r := by
  show Bool.rec (motive := fun _ => Option AV) (lk j r) (some u) (Nat.beq j i) = _
  rw [Tr.beq_eq]; by_cases h : j = i <;> simp [h]
theorem lk_rep (k : Nat) (v : AV) (j : Nat) : ∀ l, has k l = true → lk j (rep k v l) = if j = k then some v else lk j l
  | [], h => by cases h
  | (i, u) :: r, h => by
    rw [has_cons] at h
    unfold rep
    rw [Tr.beq_eq] at h ⊢
    by_cases hk : k = i
    · subst hk
      simp only [decide_true]
      rw [lk_cons, lk_cons]
      by_cases q : j = k <;> simp [q]
    · simp only [hk, decide_false] at h ⊢
      rw [lk_cons, lk_cons, lk_rep k v j r h]
      by_cases q : j = i
      · subst q
        have : ¬ j = k := fun e => hk e.symm
        simp [this]
      · simp [q]
theorem lk_bnd (k : Nat) (v : AV) (j : Nat) (l : Loc) : lk j (bnd k v l) = if j = k then some v else lk j l := by
  unfold bnd
  cases q : has k l with
  | true => exact lk_rep k v j l q
  | false => rw [lk_cons]
end Mine
end
end
section
set_option genSizeOf false
set_option genInjectivity false
set_option maxRecDepth 100000
set_option linter.unusedVariables false
noncomputable section
namespace Mine
open PySem PySem.W
noncomputable abbrev prog : Program := PySem.Challenge.rw_xe0031_01.row.prog
structure Cx where
  w : World
  hb : Heap
  mg : Str → Option Value
  mb : Str → Option Value
  hp : List Int
  low : ∃ o, hb.get? cStatics = some o
noncomputable def Cx.h (C : Cx) (j : Nat) : Int := C.hp.getD j 0
noncomputable def Cx.cs (C : Cx) : List Nat := C.hp.map fun h => (h / 4 % 3).toNat
noncomputable def RV (C : Cx) (as : List Addr) : AV → Value → Prop
  | .none, v => v = .none
  | .bool b, v => v = .bool b
  | .int i, v => ∃ t, v = .int i t
  | .str s, v => ∃ t, v = .str ⟨s.toArray⟩ t
  | .byt b, v => ∃ t, v = .bytes (b.map UInt8.ofNat).toArray t
  | .ref i, v => ∃ a, as[i]? = some a ∧ v = .ref a
  | .aint, v => ∃ i t, v = .int i t
  | .sint, v => ∃ i t, v = .int i t ∧ 0 ≤ i ∧ i < 1048576
  | .npos, v => ∃ i t, v = .int i t ∧ i ≤ 0
  | .atl c, v => ∃ i t, v = .int i t ∧ (c : Int) ≤ i
  | .res r j, v => ∃ t, v = .int (C.h j) t ∧ C.h j % 4 = (r : Int)
  | .big c j, v => ∃ t, v = .int (C.h j) t ∧ (c : Int) ≤ C.h j % 4
  | .quo j, v => ∃ t, v = .int (C.h j / 4) t
  | .idx j, v => ∃ t, v = .int (C.h j / 4 % 3) t
  | .sym y, v => ∃ t, v = .str ⟨(syS C.cs y).toArray⟩ t
  | .par k, v => ∃ a items, v = .ref a ∧ C.hb.IsList a items ∧ items.size = k ∧ ∀ x ∈ items.toList, ∃ i t, x = .int i t
noncomputable def RVs (C : Cx) (as : List Addr) : List AV → List Value → Prop
  | [], vs => vs = []
  | a :: l, vs => ∃ v r, vs = v :: r ∧ RV C as a v ∧ RVs C as l r
theorem asGet {as as' : List Addr} (p : as <+: as') {i : Nat} {a : Addr} (h : as[i]? = some a) : as'[i]? = some a := by
  obtain ⟨t, rfl⟩ := p
  rw [List.getElem?_append_left (List.getElem?_eq_some_iff.mp h).1]
  exact h
theorem RV.mono {C : Cx} {as as' : List Addr} (p : as <+: as') {a : AV} {v : Value} (h : RV C as a v) : RV C as' a v := by
  cases a with
  | ref i => obtain ⟨a, h, e⟩ := h; exact ⟨a, asGet p h, e⟩
  | _ => exact h
theorem RVs.mono {C : Cx} {as as' : List Addr} (p : as <+: as') {l : List AV} : ∀ {vs : List Value}, RVs C as l vs → RVs C as' l vs := by
  induction l with
  | nil => intro _ h; exact h
  | cons a l ih => intro vs h; obtain ⟨v, r, e, h, k⟩ := h; exact ⟨v, r, e, h.mono p, ih k⟩
theorem RVs.length {C : Cx} {as : List Addr} {l : List AV} : ∀ {vs : List Value}, RVs C as l vs → vs.length = l.length := by
  induction l with
  | nil => intro vs h; rw [show vs = [] from h]; rfl
  | cons a l ih => intro vs h; obtain ⟨v, r, rfl, h, k⟩ := h; exact congrArg (· + 1) (ih k)
theorem RVs.append {C : Cx} {as : List Addr} {l : List AV} : ∀ {vs : List Value} {l' : List AV} {vs' : List Value}, RVs C as l vs → RVs C as l' vs' → RVs C as (l ++ l') (vs ++ vs') := by
  induction l with
  | nil => intro vs _ _ h k; rw [show vs = [] from h]; exact k
  | cons a l ih => intro vs _ _ h q; obtain ⟨v, r, rfl, h, k⟩ := h; exact ⟨v, r ++ _, rfl, h, ih k q⟩
theorem RVs.one {C : Cx} {as : List Addr} {a : AV} {v : Value} (h : RV C as a v) : RVs C as [a] [v] := ⟨v, [], rfl, h, rfl⟩
theorem RVs.get {C : Cx} {as : List Addr} {l : List AV} : ∀ {vs : List Value}, RVs C as l vs → ∀ {i : Nat} {a : AV}, l[i]? = some a → ∃ v, vs[i]? = some v ∧ RV C as a v := by
  induction l with
  | nil => intro _ _ _ _ e; cases e
  | cons a l ih =>
    intro vs h i b e
    obtain ⟨v, r, rfl, h, k⟩ := h
    cases i with
    | zero => cases e; exact ⟨v, rfl, h⟩
    | succ i => exact ih k (i := i) e
theorem RVs.set {C : Cx} {as : List Addr} {l : List AV} : ∀ {vs : List Value}, RVs C as l vs → ∀ (i : Nat) {a : AV} {v : Value}, RV C as a v → RVs C as (l.set i a) (vs.set i v) := by
  induction l with
  | nil => intro vs h _ _ _ _; rw [show vs = [] from h]; rfl
  | cons a l ih =>
    intro vs h i b v e
    obtain ⟨u, r, rfl, h, k⟩ := h
    cases i with
    | zero => exact ⟨v, r, rfl, e, k⟩
    | succ i => exact ⟨u, r.set i v, rfl, h, ih k i e⟩
theorem RVs.take {C : Cx} {as : List Addr} {l : List AV} : ∀ {vs : List Value}, RVs C as l vs → ∀ (i : Nat), RVs C as (l.take i) (vs.take i) := by
  induction l with
  | nil => intro vs h i; rw [show vs = [] from h, List.take_nil, List.take_nil]; rfl
  | cons a l ih =>
    intro vs h i
    obtain ⟨v, r, rfl, h, k⟩ := h
    cases i with
    | zero => rfl
    | succ i => exact ⟨v, r.take i, rfl, h, ih k i⟩
theorem RVs.drop {C : Cx} {as : List Addr} {l : List AV} : ∀ {vs : List Value}, RVs C as l vs → ∀ (i : Nat), RVs C as (l.drop i) (vs.drop i) := by
  induction l with
  | nil => intro vs h i; rw [show vs = [] from h, List.drop_nil, List.drop_nil]; rfl
  | cons a l ih =>
    intro vs h i
    cases i with
    | zero => exact h
    | succ i => obtain ⟨v, r, rfl, h, k⟩ := h; exact ih k i
theorem RVs.reverse {C : Cx} {as : List Addr} {l : List AV} : ∀ {vs : List Value}, RVs C as l vs → RVs C as l.reverse vs.reverse := by
  induction l with
  | nil => intro vs h; rw [show vs = [] from h]; rfl
  | cons a l ih =>
    intro vs h
    obtain ⟨v, r, rfl, h, k⟩ := h
    rw [List.reverse_cons, List.reverse_cons]
    exact (ih k).append (.one h)
noncomputable def whtCls : Addr := 163
/-- the entries of a made object's dict -/
noncomputable def AtOk (C : Cx) (as : List Addr) (es : List (Nat × AV)) (mA : Str → Option Value) : Prop := ∀ k v, lk k es = some v → k < 5 ∧ ∃ val, mA (atN k) = some val ∧ RV C as v val
theorem AtOk.mono {C : Cx} {as as' : List Addr} (p : as <+: as') {es : List (Nat × AV)} {mA : Str → Option Value} (h : AtOk C as es mA) : AtOk C as' es mA := fun k v e => let ⟨a, val, b, c⟩ := h k v e; ⟨a, val, b, c.mono p⟩
/-- an object of the heap for an abstract one -/
noncomputable def Real (C : Cx) (as : List Addr) (h : Heap) (a : Addr) : AO → Prop
  | .list vs => ∃ items n, IsL h a items n ∧ RVs C as vs items.toList
  | .tup vs => ∃ items, h.get? a = some { cls := .type "tuple", dict := none, data := .seq items 0, slots := #[] } ∧ RVs C as vs items.toList
  | .dictI es ep => (a == sysModules) = false ∧ ∃ kvs : List (Int × Value), h.DictAt (intKind prog C.w) a kvs ep ∧ kvs.map (·.1) = es.map (·.1) ∧ RVs C as (es.map (·.2)) (kvs.map (·.2))
  | .dictS es => (a == sysModules) = false ∧ ∃ kvs : List (Str × Value), h.DictOf (strKind prog C.w) a kvs ∧ kvs.map (·.1) = es.map (fun e => (⟨e.1.toArray⟩ : Str)) ∧ RVs C as (es.map (·.2)) (kvs.map (·.2))
  | .mat s j b => ∃ y t x p l li, as[j]? = some y ∧ h.get? a = some { cls := .type "re.Match", data := .fields #[.str ⟨s.toArray⟩ t, x, p, l, li, .ref y] }
  | .runs k => ∃ items n, IsL h a items n ∧ RVs C as ((rkS C.cs k).map .str) items.toList
  | .inst j => ∃ da, as[j]? = some da ∧ h.get? a = some { cls := .ref whtCls, dict := some da, data := .plain }
  | .idict es => ∃ mA, h.Ns1 a mA ∧ PySem.Within mA atL ∧ AtOk C as es mA
  | .wht _ _ _ _ => True
  | .aux => True
theorem Real.mono {C : Cx} {as as' : List Addr} {h : Heap} {a : Addr} (p : as <+: as') {o : AO} (r : Real C as h a o) : Real C as' h a o := by
  cases o with
  | list _ => obtain ⟨i, n, x, y⟩ := r; exact ⟨i, n, x, y.mono p⟩
  | tup _ => obtain ⟨i, x, y⟩ := r; exact ⟨i, x, y.mono p⟩
  | dictI _ _ => obtain ⟨lo, k, x, y, z⟩ := r; exact ⟨lo, k, x, y, z.mono p⟩
  | dictS _ => obtain ⟨lo, k, x, y, z⟩ := r; exact ⟨lo, k, x, y, z.mono p⟩
  | runs _ => obtain ⟨i, n, x, y⟩ := r; exact ⟨i, n, x, y.mono p⟩
  | mat _ _ _ => obtain ⟨d, t, x, p', l, li, x1, y⟩ := r; exact ⟨d, t, x, p', l, li, asGet p x1, y⟩
  | inst _ => obtain ⟨d, x, y⟩ := r; exact ⟨d, asGet p x, y⟩
  | idict _ => obtain ⟨m, x, y, z⟩ := r; exact ⟨m, x, y, z.mono p⟩
  | _ => exact r
theorem dictOf_at {prog : Program} {w : World} {K : Type} [DecidableEq K] {knd : KeyKind prog w K} {h h' : Heap} {a : Addr} {kvs : List (K × Value)} (x : h.DictOf knd a kvs) (k : ∀ o, h.get? a = some o → h'.get? a = some o) : h'.DictOf knd a kvs := by
  obtain ⟨ep, d⟩ := x.dictAt
  exact (d.at' k).dictOf
theorem Real.at {C : Cx} {as : List Addr} {h h' : Heap} {a : Addr} (k : ∀ o, h.get? a = some o → h'.get? a = some o) {o : AO} (r : Real C as h a o) : Real C as h' a o := by
  cases o with
  | list _ => obtain ⟨i, n, x, y⟩ := r; exact ⟨i, n, k _ x, y⟩
  | tup _ => obtain ⟨i, x, y⟩ := r; exact ⟨i, k _ x, y⟩
  | dictI _ _ => obtain ⟨lo, kv, x, y, z⟩ := r; exact ⟨lo, kv, x.at' k, y, z⟩
  | dictS _ => obtain ⟨lo, kv, x, y, z⟩ := r; exact ⟨lo, kv, dictOf_at x k, y, z⟩
  | runs _ => obtain ⟨i, n, x, y⟩ := r; exact ⟨i, n, k _ x, y⟩
  | mat _ _ _ => obtain ⟨d, t, x, p', l, li, x1, y⟩ := r; exact ⟨d, t, x, p', l, li, x1, k _ y⟩
  | inst _ => obtain ⟨d, x, y⟩ := r; exact ⟨d, x, k _ y⟩
  | idict _ => obtain ⟨m, x, y, z⟩ := r; exact ⟨m, x.at k, y, z⟩
  | _ => exact r
/-- a Whitespace that bears what the first d pieces tell -/
noncomputable def WhtAt (C : Cx) (h : Heap) (a a1 a2 a3 : Addr) (d : Nat) : Prop := ∀ (i : Nat) (o : AO), (whtObj C.cs d 0)[i]? = some o → ∃ x, ([a, a1, a2, a3] : List Addr)[i]? = some x ∧ Real C [a, a1, a2, a3] h x o
theorem WhtAt.at {C : Cx} {h h' : Heap} {a a1 a2 a3 : Addr} {d : Nat} (W : WhtAt C h a a1 a2 a3 d) (k : ∀ x ∈ [a, a1, a2, a3], ∀ o, h.get? x = some o → h'.get? x = some o) : WhtAt C h' a a1 a2 a3 d :=
  fun i o e => let ⟨x, ex, r⟩ := W i o e; ⟨x, ex, r.at (k x (List.mem_of_getElem? ex))⟩
/-- where a Whitespace of the store stands -/
noncomputable def WhtOf (C : Cx) (as : List Addr) (os : Store) (h : Heap) (i d i1 i2 i3 : Nat) : Prop :=
  i1 = i + 1 ∧ i2 = i + 2 ∧ i3 = i + 3 ∧ ∃ a a1 a2 a3, as[i]? = some a ∧ as[i1]? = some a1 ∧ as[i2]? = some a2 ∧ as[i3]? = some a3 ∧ os.get i1 = some .aux ∧ os.get i2 = some .aux ∧ os.get i3 = some .aux ∧ WhtAt C h a a1 a2 a3 d
theorem WhtOf.at {C : Cx} {as as' : List Addr} {os os' : Store} {h h' : Heap} {i d i1 i2 i3 : Nat} (W : WhtOf C as os h i d i1 i2 i3) (p : as <+: as') (ho : ∀ j, os.get j = some .aux → as[j]? ≠ none → os'.get j = some .aux)
    (k : ∀ x j, as[j]? = some x → (j = i ∨ os.get j = some .aux) → ∀ o, h.get? x = some o → h'.get? x = some o) : WhtOf C as' os' h' i d i1 i2 i3 := by
  obtain ⟨z1, z2, z3, a, a1, a2, a3, e, e1, e2, e3, x1, x2, x3, W⟩ := W
  have g : ∀ {j x}, as[j]? = some x → as'[j]? = some x := fun {j x} q => by
    obtain ⟨t, rfl⟩ := p
    rw [List.getElem?_append_left (List.getElem?_eq_some_iff.mp q).1]; exact q
  refine ⟨z1, z2, z3, a, a1, a2, a3, g e, g e1, g e2, g e3, ho _ x1 (by rw [e1]; simp), ho _ x2 (by rw [e2]; simp), ho _ x3 (by rw [e3]; simp), W.at fun x hx => ?_⟩
  simp only [List.mem_cons, List.not_mem_nil, or_false] at hx
  rcases hx with rfl | rfl | rfl | rfl
  · exact k _ _ e (.inl rfl)
  · exact k _ _ e1 (.inr x1)
  · exact k _ _ e2 (.inr x2)
  · exact k _ _ e3 (.inr x3)
structure RelS (C : Cx) (hk : Heap) (as : List Addr) (os : Store) (h : Heap) : Prop where
  base : ∀ b o, C.hb.get? b = some o → hk.get? b = some o
  keep : ∀ b o, hk.get? b = some o → h.get? b = some o
  off : ∀ a ∈ as, hk.get? a = none
  nodup : as.Nodup
  size : as.length = os.n
  live : ∀ a ∈ as, ∃ o, h.get? a = some o
  obj : ∀ i o, os.get i = some o → ∃ a, as[i]? = some a ∧ Real C as h a o
  wht : ∀ i d i1 i2 i3, os.get i = some (.wht d i1 i2 i3) → WhtOf C as os h i d i1 i2 i3
/-- a frame: its names' table, its cells, whether it may write them -/
structure Fm where
  L : Addr
  cl : List (Str × Addr)
  own : Bool
noncomputable def VarAt (m : Str → Option Value) (cl : List (Str × Addr)) (h : Heap) (x : Str) (val : Value) : Prop := match cl.lookup x with
  | none => m x = some val
  | some ca => h.IsCell ca (some val)
noncomputable def LocOk (C : Cx) (as : List Addr) (loc : Loc) (m : Str → Option Value) (cl : List (Str × Addr)) (h : Heap) : Prop := ∀ k v, lk k loc = some v → k < 65 ∧ ∃ val, VarAt m cl h (nm k) val ∧ RV C as v val
structure Rel (C : Cx) (hk : Heap) (as : List Addr) (st : St) (f : Fm) (h : Heap) : Prop where
  S : RelS C hk as st.os h
  offL : hk.get? f.L = none
  notL : f.L ∉ as
  ns : ∃ m, h.Ns f.L m ∧ LocOk C as st.loc m f.cl h
  cnot : ∀ x ca, f.cl.lookup x = some ca → ca ∉ as
  cL : ∀ x ca, f.cl.lookup x = some ca → ca ≠ f.L
  clive : ∀ x ca, f.cl.lookup x = some ca → ∃ v, h.IsCell ca v
  coff : f.own = true → ∀ x ca, f.cl.lookup x = some ca → hk.get? ca = none
  apart : ∀ x y ca, f.cl.lookup x = some ca → f.cl.lookup y = some ca → x = y
theorem isCell_at {h h' : Heap} {c : Addr} {v : Option Value} (x : h.IsCell c v) (hk : ∀ o, h.get? c = some o → h'.get? c = some o) : h'.IsCell c v := let ⟨o, ho, hd⟩ := x; ⟨o, hk o ho, hd⟩
theorem VarAt.at {m : Str → Option Value} {cl : List (Str × Addr)} {h h' : Heap} {x : Str} {val : Value} (e : VarAt m cl h x val) (hs : ∀ ca, cl.lookup x = some ca → ∀ o, h.get? ca = some o → h'.get? ca = some o) : VarAt m cl h' x val := by
  unfold VarAt at e ⊢
  split at e
  · rename_i q; exact e
  · rename_i ca q; exact isCell_at e (hs ca q)
theorem LocOk.at {C : Cx} {as as' : List Addr} {loc : Loc} {m : Str → Option Value} {cl : List (Str × Addr)} {h h' : Heap} (l : LocOk C as loc m cl h) (hs : ∀ x ca, cl.lookup x = some ca → ∀ o, h.get? ca = some o → h'.get? ca = some o) (p : as <+: as') : LocOk C as' loc m cl h' :=
  fun k v e => let ⟨a, val, b, c⟩ := l k v e; ⟨a, val, b.at (hs _), c.mono p⟩
namespace RelS
variable {C : Cx} {hk : Heap} {as : List Addr} {os os' : Store} {h h' : Heap}
theorem inBase (R : RelS C hk as os h) {b : Addr} {o : Obj} (e : C.hb.get? b = some o) : h.get? b = some o := R.keep b o (R.base b o e)
/-- a change elsewhere -/
theorem extBut (R : RelS C hk as os h) {b : Addr} (hs : Heap.ExtBut b h h') (hb : b ∉ as) (hkb : hk.get? b = none) : RelS C hk as os h' where
  base := R.base
  keep := fun x o e => hs x o (fun q => by rw [q, hkb] at e; cases e) (R.keep x o e)
  off := R.off
  nodup := R.nodup
  size := R.size
  live := fun a ha => let ⟨o, e⟩ := R.live a ha; ⟨o, hs a o (fun q => hb (q ▸ ha)) e⟩
  obj := fun i o e => let ⟨a, ea, r⟩ := R.obj i o e; ⟨a, ea, r.at fun ob q => hs a ob (fun q => hb (q ▸ List.mem_of_getElem? ea)) q⟩
  wht := fun i d i1 i2 i3 e => (R.wht i d i1 i2 i3 e).at (List.prefix_refl _) (fun _ x _ => x) fun x j ea _ o => hs x o (fun q => hb (q ▸ List.mem_of_getElem? ea))
theorem ext (R : RelS C hk as os h) (hs : ∀ b o, h.get? b = some o → h'.get? b = some o) : RelS C hk as os h' where
  base := R.base
  keep := fun x o e => hs x o (R.keep x o e)
  off := R.off
  nodup := R.nodup
  size := R.size
  live := fun a ha => let ⟨o, e⟩ := R.live a ha; ⟨o, hs a o e⟩
  obj := fun i o e => let ⟨a, ea, r⟩ := R.obj i o e; ⟨a, ea, r.at fun ob q => hs a ob q⟩
  wht := fun i d i1 i2 i3 e => (R.wht i d i1 i2 i3 e).at (List.prefix_refl _) (fun _ x _ => x) fun x j ea _ o => hs x o
theorem push (R : RelS C hk as os h) (o : Obj) : RelS C hk as os (h.push o) := R.ext fun _ _ e => Heap.get?_push_of_some o e
theorem lowNew (R : RelS C hk as os h) : (h.objs.size == sysModules) = false := by
  obtain ⟨o, e⟩ := C.low
  have := Heap.lt_size (R.inBase e)
  have : 2 < h.objs.size := this
  rw [beq_eq_false_iff_ne]
  show h.objs.size ≠ 1
  omega
theorem fresh (R : RelS C hk as os h) : h.objs.size ∉ as := fun q => by
  obtain ⟨o, e⟩ := R.live _ q
  exact absurd (Heap.lt_size e) (Nat.lt_irrefl _)
theorem freshK (R : RelS C hk as os h) : hk.get? h.objs.size = none := by
  cases e : hk.get? h.objs.size with
  | none => rfl
  | some o => exact absurd (Heap.lt_size (R.keep _ _ e)) (Nat.lt_irrefl _)
theorem notIn (R : RelS C hk as os h) {a : Addr} (e : h.get? a = none) : a ∉ as := fun q => by
  obtain ⟨o, e'⟩ := R.live _ q
  rw [e] at e'; cases e'
theorem notK (R : RelS C hk as os h) {a : Addr} (e : h.get? a = none) : hk.get? a = none := by
  cases q : hk.get? a with
  | none => rfl
  | some o => rw [R.keep _ _ q] at e; cases e
/-- a new object of the store -/
theorem new (R : RelS C hk as os h) {o : AO} {v : AV} {a : Addr} {ob : Obj} (e : os.new o = some (v, os')) (hs : ∀ b x, h.get? b = some x → h'.get? b = some x) (ha : h.get? a = none) (hob : h'.get? a = some ob)
    (r : Real C (as ++ [a]) h' a o) (hpl : o.plain = true) : RelS C hk (as ++ [a]) os' h' ∧ RV C (as ++ [a]) v (.ref a) := by
  obtain ⟨rfl, hn, hg, ho⟩ := Store.new_eq e
  have pre : as <+: as ++ [a] := ⟨[a], rfl⟩
  have hat : (as ++ [a])[os.n]? = some a := by rw [← R.size]; simp
  refine ⟨⟨R.base, fun x o e => hs x o (R.keep x o e), ?_, ?_, ?_, ?_, ?_, ?_⟩, a, hat, rfl⟩
  · intro x hx
    rcases List.mem_append.mp hx with hx | hx
    · exact R.off x hx
    · rw [List.mem_singleton.mp hx]; exact R.notK ha
  · rw [List.nodup_append]
    refine ⟨R.nodup, by simp, ?_⟩
    intro x hx y hy
    rw [List.mem_singleton.mp hy]
    intro q
    subst q
    exact R.notIn ha hx
  · rw [hn, ← R.size]; simp
  · intro x hx
    rcases List.mem_append.mp hx with hx | hx
    · obtain ⟨o, e⟩ := R.live x hx; exact ⟨o, hs x o e⟩
    · rw [List.mem_singleton.mp hx]; exact ⟨ob, hob⟩
  · intro i o' e'
    by_cases hi : i = os.n
    · subst hi
      rw [hg] at e'
      cases e'
      exact ⟨a, hat, r⟩
    · rw [ho i hi] at e'
      obtain ⟨x, ex, rx⟩ := R.obj i o' e'
      refine ⟨x, ?_, (rx.at fun ob q => hs x ob q).mono pre⟩
      rw [List.getElem?_append_left (List.getElem?_eq_some_iff.mp ex).1]; exact ex
  · intro i d i1 i2 i3 e'
    have hi : i ≠ os.n := fun q => by rw [q, hg] at e'; cases e'; cases hpl
    rw [ho i hi] at e'
    refine (R.wht i d i1 i2 i3 e').at pre (fun j x y => ?_) fun x j _ _ o => hs x o
    rw [ho j fun q => y (by rw [q, ← R.size]; simp)]; exact x
/-- an object of the store changed -/
theorem set (R : RelS C hk as os h) {i : Nat} {o : AO} {a : Addr} {ob : Obj} (e : os.set i o = some os') (hat : as[i]? = some a) (hs : Heap.ExtBut a h h') (hob : h'.get? a = some ob) (r : Real C as h' a o) (hpl : o.plain = true) (hpr : ∃ o0, os.get i = some o0 ∧ o0.plain = true) : RelS C hk as os' h' := by
  obtain ⟨hn, hg, ho⟩ := Store.set_eq e
  have hmem : a ∈ as := List.mem_of_getElem? hat
  refine ⟨R.base, fun x o e => hs x o (fun q => by rw [q, R.off a hmem] at e; cases e) (R.keep x o e), R.off, R.nodup, by rw [hn]; exact R.size, fun x hx => ?_, fun j o' e' => ?_, fun j d i1 i2 i3 e' => ?_⟩
  · by_cases q : x = a
    · rw [q]; exact ⟨ob, hob⟩
    · obtain ⟨o, e⟩ := R.live x hx; exact ⟨o, hs x o q e⟩
  · by_cases hj : j = i
    · subst hj
      rw [hg] at e'
      cases e'
      exact ⟨a, hat, r⟩
    · rw [ho j hj] at e'
      obtain ⟨x, ex, rx⟩ := R.obj j o' e'
      refine ⟨x, ex, rx.at fun ob q => hs x ob (fun q => ?_) q⟩
      subst q
      exact hj ((List.getElem?_inj (List.getElem?_eq_some_iff.mp ex).1 R.nodup).mp (ex.trans hat.symm))
  · have hj : j ≠ i := fun q => by rw [q, hg] at e'; cases e'; cases hpl
    rw [ho j hj] at e'
    obtain ⟨o0, eo0, po0⟩ := hpr
    have hx : ∀ k, os.get k = some .aux → k ≠ i := fun k x q => by rw [q, eo0] at x; cases x; cases po0
    refine (R.wht j d i1 i2 i3 e').at (List.prefix_refl _) (fun k x _ => by rw [ho k (hx k x)]; exact x) fun x k ek hor ob => hs x ob fun q => ?_
    subst q
    have hki : k = i := (List.getElem?_inj (List.getElem?_eq_some_iff.mp ek).1 R.nodup).mp (ek.trans hat.symm)
    rcases hor with q | q
    · exact hj (q ▸ hki)
    · exact hx k q hki
/-- fewer things kept -/
theorem weaken {hk' : Heap} (R : RelS C hk' as os h) (hb : ∀ b o, C.hb.get? b = some o → hk.get? b = some o) (hs : ∀ b o, hk.get? b = some o → hk'.get? b = some o) : RelS C hk as os h where
  base := hb
  keep := fun x o e => R.keep x o (hs x o e)
  off := fun a ha => by
    cases q : hk.get? a with
    | none => rfl
    | some o => have := hs _ _ q; rw [R.off a ha] at this; cases this
  nodup := R.nodup
  size := R.size
  live := R.live
  obj := R.obj
  wht := R.wht
/-- all that stands beside the store kept -/
noncomputable def all (as : List Addr) (h : Heap) : Heap := hideAll h as
theorem wide (R : RelS C hk as os h) : RelS C (all as h) as os h where
  base := fun b o e => hideAll_get as (R.inBase e) fun q => by
    have := R.off b q
    rw [R.base b o e] at this; cases this
  keep := fun _ _ e => of_hideAll as e
  off := fun _ ha => hideAll_none as ha
  nodup := R.nodup
  size := R.size
  live := R.live
  obj := R.obj
  wht := R.wht
theorem allGet {b : Addr} {o : Obj} (e : h.get? b = some o) (hb : b ∉ as) : (all as h).get? b = some o := hideAll_get as e hb
/-- from the wide one back -/
theorem back {as' : List Addr} {os' : Store} (R : RelS C hk as os h) (R' : RelS C (all as h) as' os' h') : RelS C hk as' os' h' :=
  R'.weaken R.base fun b o e => allGet (R.keep b o e) fun q => by rw [R.off b q] at e; cases e
end RelS
namespace Rel
variable {C : Cx} {hk : Heap} {as : List Addr} {st : St} {f : Fm} {h h' : Heap}
theorem liveL (R : Rel C hk as st f h) : ∃ o, h.get? f.L = some o := by
  obtain ⟨_, ⟨o, _, _, e, _⟩, _⟩ := R.ns
  exact ⟨o, e⟩
theorem clive' (R : Rel C hk as st f h) {x : Str} {ca : Addr} (q : f.cl.lookup x = some ca) : ∃ o, h.get? ca = some o := let ⟨_, o, e, _⟩ := R.clive x ca q; ⟨o, e⟩
/-- the frame as it stood, the store another -/
theorem move (R : Rel C hk as st f h) {as' : List Addr} {os' : Store} (S : RelS C hk as' os' h') (p : as <+: as') (hL : ∀ o, h.get? f.L = some o → h'.get? f.L = some o) (nL : f.L ∉ as')
    (hc : ∀ x ca, f.cl.lookup x = some ca → (∀ o, h.get? ca = some o → h'.get? ca = some o) ∧ ca ∉ as') : Rel C hk as' ⟨st.loc, os'⟩ f h' :=
  ⟨S, R.offL, nL, let ⟨m, n, l⟩ := R.ns; ⟨m, n.at' hL, l.at (fun x ca q => (hc x ca q).1) p⟩, fun x ca q => (hc x ca q).2, R.cL, fun x ca q => let ⟨v, e⟩ := R.clive x ca q; ⟨v, isCell_at e (hc x ca q).1⟩, R.coff, R.apart⟩
theorem ext (R : Rel C hk as st f h) (hs : ∀ b o, h.get? b = some o → h'.get? b = some o) : Rel C hk as st f h' :=
  R.move (R.S.ext hs) (List.prefix_refl _) (hs _) R.notL fun x ca q => ⟨hs ca, R.cnot x ca q⟩
theorem push (R : Rel C hk as st f h) (o : Obj) : Rel C hk as st f (h.push o) := R.ext fun _ _ e => Heap.get?_push_of_some _ e
theorem new (R : Rel C hk as st f h) {o : AO} {v : AV} {a : Addr} {ob : Obj} {os' : Store} (e : st.os.new o = some (v, os')) (hs : ∀ b x, h.get? b = some x → h'.get? b = some x) (ha : h.get? a = none) (hob : h'.get? a = some ob)
    (r : Real C (as ++ [a]) h' a o) (hpl : o.plain = true) : Rel C hk (as ++ [a]) ⟨st.loc, os'⟩ f h' ∧ RV C (as ++ [a]) v (.ref a) := by
  obtain ⟨x, y⟩ := R.S.new e hs ha hob r hpl
  refine ⟨R.move x ⟨[a], rfl⟩ (hs _) ?_ fun z ca q => ⟨hs ca, ?_⟩, y⟩
  · intro q
    rcases List.mem_append.mp q with q | q
    · exact R.notL q
    · obtain ⟨o, e⟩ := R.liveL
      rw [List.mem_singleton.mp q, ha] at e; cases e
  · intro q'
    rcases List.mem_append.mp q' with q' | q'
    · exact R.cnot z ca q q'
    · obtain ⟨o, e⟩ := R.clive' q
      rw [List.mem_singleton.mp q', ha] at e; cases e
theorem set (R : Rel C hk as st f h) {i : Nat} {o : AO} {a : Addr} {ob : Obj} {os' : Store} (e : st.os.set i o = some os') (hat : as[i]? = some a) (hs : Heap.ExtBut a h h') (hob : h'.get? a = some ob) (r : Real C as h' a o) (hpl : o.plain = true) (hpr : ∃ o0, st.os.get i = some o0 ∧ o0.plain = true) :
    Rel C hk as ⟨st.loc, os'⟩ f h' :=
  R.move (R.S.set e hat hs hob r hpl hpr) (List.prefix_refl _) (fun o => hs _ o fun q => R.notL (q ▸ List.mem_of_getElem? hat)) R.notL fun x ca q => ⟨fun o => hs _ o fun q' => R.cnot x ca q (q' ▸ List.mem_of_getElem? hat), R.cnot x ca q⟩
/-- a local stored -/
theorem store {m : Str → Option Value} (R : Rel C hk as st f h) (hn0 : h.Ns f.L m) (l : LocOk C as st.loc m f.cl h) {k : Nat} {v : AV} {val : Value} (hk50 : k < 65) (hv : RV C as v val) (hloc : f.cl.lookup (nm k) = none)
    (hn : h'.Ns f.L (fun x => if x = nm k then some val else m x)) (hs : Heap.SameBut f.L h h') : Rel C hk as ⟨bnd k v st.loc, st.os⟩ f h' := by
  have hc : ∀ x ca, f.cl.lookup x = some ca → ∀ o, h.get? ca = some o → h'.get? ca = some o := fun x ca q o e => hs.extBut ca o (R.cL x ca q) e
  refine ⟨R.S.extBut hs.extBut R.notL R.offL, R.offL, R.notL, ⟨_, hn, fun j u e => ?_⟩, R.cnot, R.cL, fun x ca q => let ⟨v, e⟩ := R.clive x ca q; ⟨v, isCell_at e (hc x ca q)⟩, R.coff, R.apart⟩
  rw [lk_bnd] at e
  by_cases q : j = k
  · subst q
    rw [if_pos rfl] at e
    cases e
    refine ⟨hk50, val, ?_, hv⟩
    unfold VarAt
    rw [hloc]
    exact if_pos rfl
  · rw [if_neg q] at e
    obtain ⟨p, val', x, y⟩ := l j u e
    refine ⟨p, val', ?_, y⟩
    replace x := x.at (hc _)
    unfold VarAt at x ⊢
    split at x
    · rename_i q2
      show (if nm j = nm k then some val else m (nm j)) = _
      rw [if_neg fun z => q (nm_inj j k p hk50 z)]; exact x
    · rename_i ca q2
      exact x
/-- a cell stored -/
theorem storeC {m : Str → Option Value} (R : Rel C hk as st f h) (hn0 : h.Ns f.L m) (l : LocOk C as st.loc m f.cl h) {k : Nat} {v : AV} {val : Value} {ca : Addr} (hk50 : k < 65) (hv : RV C as v val) (hloc : f.cl.lookup (nm k) = some ca) (ho : f.own = true)
    (hn : h'.IsCell ca (some val)) (hs : Heap.SameBut ca h h') : Rel C hk as ⟨bnd k v st.loc, st.os⟩ f h' := by
  have hc : ∀ x c, f.cl.lookup x = some c → x ≠ nm k → ∀ o, h.get? c = some o → h'.get? c = some o := fun x c q hx o e => hs.extBut c o (fun q' => hx (R.apart x (nm k) ca (q' ▸ q) hloc)) e
  refine ⟨R.S.extBut hs.extBut (R.cnot _ _ hloc) (R.coff ho _ _ hloc), R.offL, R.notL, ⟨m, hn0.extBut hs.extBut (R.cL _ _ hloc).symm, fun j u e => ?_⟩, R.cnot, R.cL, fun x c q => ?_, R.coff, R.apart⟩
  · rw [lk_bnd] at e
    by_cases q : j = k
    · subst q
      rw [if_pos rfl] at e
      cases e
      refine ⟨hk50, val, ?_, hv⟩
      unfold VarAt
      rw [hloc]
      exact hn
    · rw [if_neg q] at e
      obtain ⟨p, val', x, y⟩ := l j u e
      exact ⟨p, val', x.at fun c q2 => hc _ c q2 fun z => q (nm_inj j k p hk50 z), y⟩
  · by_cases hx : x = nm k
    · subst hx
      rw [hloc] at q
      cases q
      exact ⟨_, hn⟩
    · obtain ⟨v, e⟩ := R.clive x c q
      exact ⟨v, isCell_at e (hc x c q hx)⟩
/-- the addresses of a frame -/
noncomputable def fa (f : Fm) : List Addr := f.L :: (match f.own with | true => f.cl.map (·.2) | false => [])
theorem fa_mem {f : Fm} {b : Addr} (h : b ∈ fa f) : b = f.L ∨ (f.own = true ∧ b ∈ f.cl.map (·.2)) := by
  rcases List.mem_cons.mp h with q | q
  · exact .inl q
  · right
    cases e : f.own with
    | true => rw [e] at q; exact ⟨rfl, q⟩
    | false => rw [e] at q; exact absurd q (by simp)
end Rel
theorem lookup_nodup {l : List (Str × Addr)} {c : Addr} (hn : (l.map (·.1)).Nodup) (h : c ∈ l.map (·.2)) : ∃ x, l.lookup x = some c := by
  obtain ⟨⟨x, c'⟩, hm, rfl⟩ := List.mem_map.mp h
  refine ⟨x, ?_⟩
  induction l with
  | nil => cases hm
  | cons p r ih =>
    obtain ⟨y, d⟩ := p
    simp only [List.map_cons, List.nodup_cons] at hn
    rcases List.mem_cons.mp hm with q | q
    · cases q; simp
    · have : x ≠ y := fun z => hn.1 (z ▸ List.mem_map.mpr ⟨_, q, rfl⟩)
      simp only [List.lookup_cons, beq_eq_false_iff_ne.mpr this]
      exact ih hn.2 q (List.mem_map.mpr ⟨_, q, rfl⟩)
namespace Rel
variable {C : Cx} {hk : Heap} {as : List Addr} {st : St} {f : Fm} {h h' : Heap}
/-- keep all beside the store and the frame -/
noncomputable def all (as : List Addr) (f : Fm) (h : Heap) : Heap := hideAll h (fa f ++ as)
theorem wide (R : Rel C hk as st f h) (hn : (f.cl.map (·.1)).Nodup) : Rel C (all as f h) as st f h :=
  ⟨{ R.S.wide with
      base := fun b o e => hideAll_get _ (R.S.inBase e) fun q => by
        rcases List.mem_append.mp q with q | q
        · rcases fa_mem q with q | ⟨q1, q⟩
          · have := R.offL; rw [← q, R.S.base b o e] at this; cases this
          · obtain ⟨x, hx⟩ := lookup_nodup hn q
            have := R.coff q1 x b hx; rw [R.S.base b o e] at this; cases this
        · have := R.S.off b q; rw [R.S.base b o e] at this; cases this
      keep := fun _ _ e => of_hideAll _ e
      off := fun _ ha => hideAll_none _ (List.mem_append_right _ ha) }, hideAll_none _ (List.mem_append_left _ (.head _)), R.notL, R.ns, R.cnot, R.cL, R.clive,
    fun ho x ca q => hideAll_none _ (List.mem_append_left _ (by
      unfold fa
      rw [ho]
      exact .tail _ (List.mem_map.mpr ⟨(x, ca), mem_of_lookup q, rfl⟩))), R.apart⟩
theorem allGet {b : Addr} {o : Obj} (e : h.get? b = some o) (hb : b ∉ as) (hL : b ∉ fa f) : (all as f h).get? b = some o := hideAll_get _ e fun q => by
  rcases List.mem_append.mp q with q | q
  · exact hL q
  · exact hb q
theorem notFa (R : Rel C hk as st f h) (hn : (f.cl.map (·.1)).Nodup) {b : Addr} {o : Obj} (e : hk.get? b = some o) : b ∉ fa f := fun q => by
  rcases fa_mem q with q | ⟨q1, q⟩
  · rw [q, R.offL] at e; cases e
  · obtain ⟨x, hx⟩ := lookup_nodup hn q
    rw [R.coff q1 x b hx] at e; cases e
theorem back {as' : List Addr} {st' : St} (R : Rel C hk as st f h) (hn : (f.cl.map (·.1)).Nodup) (R' : Rel C (all as f h) as' st' f h') : Rel C hk as' st' f h' :=
  ⟨R'.S.weaken R.S.base fun b o e => allGet (R.S.keep b o e) (fun q => by rw [R.S.off b q] at e; cases e) (R.notFa hn e), R.offL, R'.notL, R'.ns, R'.cnot, R'.cL, R'.clive, R.coff, R'.apart⟩
end Rel
end Mine
end
end
section
set_option maxRecDepth 100000
set_option linter.unusedVariables false
set_option autoImplicit false
set_option genSizeOf false
set_option genInjectivity false
noncomputable section
namespace Mine
open PySem PySem.W PyProof.Rows
structure Room (A : Around) (n : Nat) : Prop where
  handled : A.handled = none
  depth : A.depth + n < recursionLimit
  units : A.units + 20 * n + 200 < cLine
theorem Room.less {A : Around} {n m : Nat} (R : Room A n) (h : m ≤ n) : Room A m := ⟨R.handled, by have := R.depth; omega, by have := R.units; omega⟩
theorem Room.u200 {A : Around} {n : Nat} (R : Room A n) : A.units + 200 < cLine := by
  have := R.units
  omega
theorem Room.u0 {A : Around} {n : Nat} (R : Room A n) : A.units < cLine := by
  have := R.units
  omega
/-- a scope; whether its frame may write its cells -/
structure Sc where
  s : Scope
  own : Bool
noncomputable def fmOf (sc : Sc) (env : Env) : Fm := ⟨env.locals, env.cells, sc.own⟩
structure Frm (sc : Sc) (env : Env) : Prop where
  eqv : env.scope = sc.s
  kind : sc.s.kind = .function
  nod : (env.cells.map (·.1)).Nodup
  lc : ∀ x, sc.s.names.lookup x = some .local → env.cells.lookup x = none
  cc : ∀ x, sc.s.names.lookup x = some .cell → ∃ ca, env.cells.lookup x = some ca
  glob : env.globals = mainGlobals
  bi : env.builtins = builtinsNs
theorem Frm.kindOf {sc : Sc} {env : Env} (F : Frm sc env) {x : Str} {k : NameKind} (h : sc.s.names.lookup x = some k) : env.kindOf x = some k := by
  show env.scope.names.lookup x = some k
  rw [F.eqv]; exact h
theorem Frm.plain {sc : Sc} {env : Env} (F : Frm sc env) : (env.scope.kind == .class || (env.scope.kind == .module && env.locals != env.globals)) = false := by
  rw [F.eqv, F.kind]; rfl
theorem Frm.fn {sc : Sc} {env : Env} (F : Frm sc env) : env.scope.kind = .function := by rw [F.eqv, F.kind]
/-- what a call, from module level, may lean on -/
structure Ok (C : Cx) : Prop where
  g : C.hb.Ns mainGlobals C.mg
  b : C.hb.Ns builtinsNs C.mb
  nolimit : C.hb.NoLimit
  bi : ∀ x : Str, x ≠ "__name__" → C.mb x = bootBuiltins x
/-- a tree told by a function on the abstract states -/
noncomputable def RefT {α β : Type} (C : Cx) (n : Nat) (sc : Sc) (t : Env → Sem α) (V : List Addr → β → α → Prop) (f : St → Option (β × St)) : Prop :=
  ∀ ⦃A : Around⦄ ⦃env : Env⦄ ⦃E : Value → Shared → Prop⦄ ⦃s : Shared⦄ ⦃hk : Heap⦄ ⦃as : List Addr⦄ ⦃st st' : St⦄ ⦃v : β⦄ ⦃Q : α → Shared → Prop⦄,
    Room A n → Frm sc env → f st = some (v, st') → Rel C hk as st (fmOf sc env) s.heap →
    (∀ as' h' tk val, as <+: as' → Rel C hk as' st' (fmOf sc env) h' → V as' v val → Q val { s with heap := h', toks := tk }) → wpAny (model prog C.w) A (t env) Q E s
noncomputable abbrev RefE (C : Cx) (n : Nat) (sc : Sc) (e : Expr) (f : St → Option (AV × St)) : Prop := RefT C n sc (fun env => eval e env) (RV C) f
noncomputable abbrev RefB (C : Cx) (n : Nat) (sc : Sc) (e : Expr) (f : St → Option (Bool × St)) : Prop := RefT C n sc (fun env => isTrue e env (eval e env)) (fun _ b x => x = b) f
inductive AF where
  | next
  | brk
  | cont
  | ret (v : AV)
noncomputable def FV (C : Cx) (as : List Addr) : AF → Flow → Prop
  | .next, f => f = .next
  | .brk, f => f = .brk
  | .cont, f => f = .cont
  | .ret v, f => ∃ val, f = .ret val ∧ RV C as v val
noncomputable abbrev RefS (C : Cx) (n : Nat) (sc : Sc) (x : Stmt) (f : St → Option (AF × St)) : Prop := RefT C n sc (fun env => exec x env) (FV C) f
noncomputable abbrev RefSs (C : Cx) (n : Nat) (sc : Sc) (x : List Stmt) (f : St → Option (AF × St)) : Prop := RefT C n sc (fun env => execs x env) (FV C) f
section
variable {C : Cx} {n : Nat} {sc : Sc}
/-! states made whole -/
noncomputable def mkS {β : Type} (v : β) (s : St) (o : Store) : Option (β × St) := match s with
  | ⟨l, _⟩ => some (v, ⟨l, o⟩)
theorem mkS_eq {β : Type} (v : β) (s : St) (o : Store) : mkS v s o = some (v, ⟨s.loc, o⟩) := rfl
noncomputable def withS {α : Type} (s : St) (o : Store) (c : St → α) : α := match s with
  | ⟨l, _⟩ => c ⟨l, o⟩
theorem withS_eq {α : Type} (s : St) (o : Store) (c : St → α) : withS s o c = c ⟨s.loc, o⟩ := rfl
/-! eliminators: what a combinator asks, the goal told once -/
theorem viaP {G : Prop} (h : ∀ P : Prop, (G → P) → P) : G := h G id
theorem noS {α : Type} {r : α} {P : Prop} (e : (none : Option α) = some r) : P := by cases e
noncomputable def ob {α σ β : Type} (x : Option (α × σ)) (k : α → σ → Option β) : Option β := match x with
  | none => none
  | some (a, s) => k a s
theorem ob_elim {α σ β : Type} {x : Option (α × σ)} {k : α → σ → Option β} {r : β} {P : Prop} (e : ob x k = some r) (h : ∀ a s, x = some (a, s) → k a s = some r → P) : P := by
  cases x with
  | none => exact noS e
  | some p => exact h p.1 p.2 rfl e
noncomputable def o1 {α β : Type} (x : Option α) (k : α → Option β) : Option β := match x with
  | none => none
  | some a => k a
theorem o1_elim {α β : Type} {x : Option α} {k : α → Option β} {r : β} {P : Prop} (e : o1 x k = some r) (h : ∀ a, x = some a → k a = some r → P) : P := by
  cases x with
  | none => exact noS e
  | some a => exact h a rfl e
noncomputable def bT {β : Type} (b : Bool) (k : Option β) : Option β := match b with
  | true => k
  | false => none
theorem bT_elim {β : Type} {b : Bool} {k : Option β} {r : β} {P : Prop} (e : bT b k = some r) (h : b = true → k = some r → P) : P := by
  cases b with
  | false => exact noS e
  | true => exact h rfl e
noncomputable def bIf {β : Type} (b : Bool) (x y : Option β) : Option β := match b with
  | true => x
  | false => y
theorem bIf_elim {β : Type} {b : Bool} {x y : Option β} {r : β} {P : Prop} (e : bIf b x y = some r) (h1 : b = true → x = some r → P) (h2 : b = false → y = some r → P) : P := by
  cases b with
  | true => exact h1 rfl e
  | false => exact h2 rfl e
noncomputable def oC {α β : Type} (x : Option α) (k : α → Option β) (y : Option β) : Option β := match x with
  | some a => k a
  | none => y
theorem oC_elim {α β : Type} {x : Option α} {k : α → Option β} {y : Option β} {r : β} {P : Prop} (e : oC x k y = some r) (h1 : ∀ a, x = some a → k a = some r → P) (h2 : x = none → y = some r → P) : P := by
  cases x with
  | none => exact h2 rfl e
  | some a => exact h1 a rfl e
/-- the second road where the first gives nothing -/
noncomputable def alt {β : Type} (x y : Option β) : Option β := match x with
  | some v => some v
  | none => y
theorem alt_elim {β : Type} {x y : Option β} {r : β} {P : Prop} (e : alt x y = some r) (h1 : x = some r → P) (h2 : y = some r → P) : P := by
  cases x with
  | none => exact h2 e
  | some v => exact h1 e
noncomputable def onInt {β : Type} (a : AV) (k : Int → Option β) : Option β := AV.casesOn (motive := fun _ => Option β) a (none) (fun _ => none) k (fun _ => none) (fun _ => none) (fun _ => none) (none) (none) (none) (fun _ => none) (fun _ _ => none) (fun _ _ => none) (fun _ => none) (fun _ => none) (fun _ => none) (fun _ => none)
theorem onInt_elim {β : Type} {a : AV} {k : Int → Option β} {r : β} {P : Prop} (e : onInt a k = some r) (h : ∀ i, a = .int i → k i = some r → P) : P :=
  AV.casesOn (motive := fun b => a = b → onInt b k = some r → P) a (fun _ (e : none = some r) => noS e) (fun _ _ (e : none = some r) => noS e) (fun x0 q e => h x0 q e) (fun _ _ (e : none = some r) => noS e) (fun _ _ (e : none = some r) => noS e) (fun _ _ (e : none = some r) => noS e) (fun _ (e : none = some r) => noS e) (fun _ (e : none = some r) => noS e) (fun _ (e : none = some r) => noS e) (fun _ _ (e : none = some r) => noS e) (fun _ _ _ (e : none = some r) => noS e) (fun _ _ _ (e : none = some r) => noS e) (fun _ _ (e : none = some r) => noS e) (fun _ _ (e : none = some r) => noS e) (fun _ _ (e : none = some r) => noS e) (fun _ _ (e : none = some r) => noS e) rfl e
noncomputable def onStr {β : Type} (a : AV) (k : List Nat → Option β) : Option β := AV.casesOn (motive := fun _ => Option β) a (none) (fun _ => none) (fun _ => none) k (fun _ => none) (fun _ => none) (none) (none) (none) (fun _ => none) (fun _ _ => none) (fun _ _ => none) (fun _ => none) (fun _ => none) (fun _ => none) (fun _ => none)
theorem onStr_elim {β : Type} {a : AV} {k : List Nat → Option β} {r : β} {P : Prop} (e : onStr a k = some r) (h : ∀ i, a = .str i → k i = some r → P) : P :=
  AV.casesOn (motive := fun b => a = b → onStr b k = some r → P) a (fun _ (e : none = some r) => noS e) (fun _ _ (e : none = some r) => noS e) (fun _ _ (e : none = some r) => noS e) (fun x0 q e => h x0 q e) (fun _ _ (e : none = some r) => noS e) (fun _ _ (e : none = some r) => noS e) (fun _ (e : none = some r) => noS e) (fun _ (e : none = some r) => noS e) (fun _ (e : none = some r) => noS e) (fun _ _ (e : none = some r) => noS e) (fun _ _ _ (e : none = some r) => noS e) (fun _ _ _ (e : none = some r) => noS e) (fun _ _ (e : none = some r) => noS e) (fun _ _ (e : none = some r) => noS e) (fun _ _ (e : none = some r) => noS e) (fun _ _ (e : none = some r) => noS e) rfl e
noncomputable def onByt {β : Type} (a : AV) (k : List Nat → Option β) : Option β := AV.casesOn (motive := fun _ => Option β) a (none) (fun _ => none) (fun _ => none) (fun _ => none) k (fun _ => none) (none) (none) (none) (fun _ => none) (fun _ _ => none) (fun _ _ => none) (fun _ => none) (fun _ => none) (fun _ => none) (fun _ => none)
theorem onByt_elim {β : Type} {a : AV} {k : List Nat → Option β} {r : β} {P : Prop} (e : onByt a k = some r) (h : ∀ i, a = .byt i → k i = some r → P) : P :=
  AV.casesOn (motive := fun b => a = b → onByt b k = some r → P) a (fun _ (e : none = some r) => noS e) (fun _ _ (e : none = some r) => noS e) (fun _ _ (e : none = some r) => noS e) (fun _ _ (e : none = some r) => noS e) (fun x0 q e => h x0 q e) (fun _ _ (e : none = some r) => noS e) (fun _ (e : none = some r) => noS e) (fun _ (e : none = some r) => noS e) (fun _ (e : none = some r) => noS e) (fun _ _ (e : none = some r) => noS e) (fun _ _ _ (e : none = some r) => noS e) (fun _ _ _ (e : none = some r) => noS e) (fun _ _ (e : none = some r) => noS e) (fun _ _ (e : none = some r) => noS e) (fun _ _ (e : none = some r) => noS e) (fun _ _ (e : none = some r) => noS e) rfl e
noncomputable def onRef {β : Type} (a : AV) (k : Nat → Option β) : Option β := AV.casesOn (motive := fun _ => Option β) a (none) (fun _ => none) (fun _ => none) (fun _ => none) (fun _ => none) k (none) (none) (none) (fun _ => none) (fun _ _ => none) (fun _ _ => none) (fun _ => none) (fun _ => none) (fun _ => none) (fun _ => none)
theorem onRef_elim {β : Type} {a : AV} {k : Nat → Option β} {r : β} {P : Prop} (e : onRef a k = some r) (h : ∀ i, a = .ref i → k i = some r → P) : P :=
  AV.casesOn (motive := fun b => a = b → onRef b k = some r → P) a (fun _ (e : none = some r) => noS e) (fun _ _ (e : none = some r) => noS e) (fun _ _ (e : none = some r) => noS e) (fun _ _ (e : none = some r) => noS e) (fun _ _ (e : none = some r) => noS e) (fun x0 q e => h x0 q e) (fun _ (e : none = some r) => noS e) (fun _ (e : none = some r) => noS e) (fun _ (e : none = some r) => noS e) (fun _ _ (e : none = some r) => noS e) (fun _ _ _ (e : none = some r) => noS e) (fun _ _ _ (e : none = some r) => noS e) (fun _ _ (e : none = some r) => noS e) (fun _ _ (e : none = some r) => noS e) (fun _ _ (e : none = some r) => noS e) (fun _ _ (e : none = some r) => noS e) rfl e
noncomputable def onIdx {β : Type} (a : AV) (k : Nat → Option β) : Option β := AV.casesOn (motive := fun _ => Option β) a (none) (fun _ => none) (fun _ => none) (fun _ => none) (fun _ => none) (fun _ => none) (none) (none) (none) (fun _ => none) (fun _ _ => none) (fun _ _ => none) (fun _ => none) k (fun _ => none) (fun _ => none)
theorem onIdx_elim {β : Type} {a : AV} {k : Nat → Option β} {r : β} {P : Prop} (e : onIdx a k = some r) (h : ∀ i, a = .idx i → k i = some r → P) : P :=
  AV.casesOn (motive := fun b => a = b → onIdx b k = some r → P) a (fun _ (e : none = some r) => noS e) (fun _ _ (e : none = some r) => noS e) (fun _ _ (e : none = some r) => noS e) (fun _ _ (e : none = some r) => noS e) (fun _ _ (e : none = some r) => noS e) (fun _ _ (e : none = some r) => noS e) (fun _ (e : none = some r) => noS e) (fun _ (e : none = some r) => noS e) (fun _ (e : none = some r) => noS e) (fun _ _ (e : none = some r) => noS e) (fun _ _ _ (e : none = some r) => noS e) (fun _ _ _ (e : none = some r) => noS e) (fun _ _ (e : none = some r) => noS e) (fun x0 q e => h x0 q e) (fun _ _ (e : none = some r) => noS e) (fun _ _ (e : none = some r) => noS e) rfl e
noncomputable def onQuo {β : Type} (a : AV) (k : Nat → Option β) : Option β := AV.casesOn (motive := fun _ => Option β) a (none) (fun _ => none) (fun _ => none) (fun _ => none) (fun _ => none) (fun _ => none) (none) (none) (none) (fun _ => none) (fun _ _ => none) (fun _ _ => none) k (fun _ => none) (fun _ => none) (fun _ => none)
theorem onQuo_elim {β : Type} {a : AV} {k : Nat → Option β} {r : β} {P : Prop} (e : onQuo a k = some r) (h : ∀ i, a = .quo i → k i = some r → P) : P :=
  AV.casesOn (motive := fun b => a = b → onQuo b k = some r → P) a (fun _ (e : none = some r) => noS e) (fun _ _ (e : none = some r) => noS e) (fun _ _ (e : none = some r) => noS e) (fun _ _ (e : none = some r) => noS e) (fun _ _ (e : none = some r) => noS e) (fun _ _ (e : none = some r) => noS e) (fun _ (e : none = some r) => noS e) (fun _ (e : none = some r) => noS e) (fun _ (e : none = some r) => noS e) (fun _ _ (e : none = some r) => noS e) (fun _ _ _ (e : none = some r) => noS e) (fun _ _ _ (e : none = some r) => noS e) (fun x0 q e => h x0 q e) (fun _ _ (e : none = some r) => noS e) (fun _ _ (e : none = some r) => noS e) (fun _ _ (e : none = some r) => noS e) rfl e
noncomputable def onSym {β : Type} (a : AV) (k : Sy → Option β) : Option β := AV.casesOn (motive := fun _ => Option β) a (none) (fun _ => none) (fun _ => none) (fun _ => none) (fun _ => none) (fun _ => none) (none) (none) (none) (fun _ => none) (fun _ _ => none) (fun _ _ => none) (fun _ => none) (fun _ => none) k (fun _ => none)
theorem onSym_elim {β : Type} {a : AV} {k : Sy → Option β} {r : β} {P : Prop} (e : onSym a k = some r) (h : ∀ y, a = .sym y → k y = some r → P) : P :=
  AV.casesOn (motive := fun b => a = b → onSym b k = some r → P) a (fun _ (e : none = some r) => noS e) (fun _ _ (e : none = some r) => noS e) (fun _ _ (e : none = some r) => noS e) (fun _ _ (e : none = some r) => noS e) (fun _ _ (e : none = some r) => noS e) (fun _ _ (e : none = some r) => noS e) (fun _ (e : none = some r) => noS e) (fun _ (e : none = some r) => noS e) (fun _ (e : none = some r) => noS e) (fun _ _ (e : none = some r) => noS e) (fun _ _ _ (e : none = some r) => noS e) (fun _ _ _ (e : none = some r) => noS e) (fun _ _ (e : none = some r) => noS e) (fun _ _ (e : none = some r) => noS e) (fun x0 q e => h x0 q e) (fun _ _ (e : none = some r) => noS e) rfl e
noncomputable def onBool {β : Type} (a : AV) (k : Bool → Option β) : Option β := AV.casesOn (motive := fun _ => Option β) a (none) k (fun _ => none) (fun _ => none) (fun _ => none) (fun _ => none) (none) (none) (none) (fun _ => none) (fun _ _ => none) (fun _ _ => none) (fun _ => none) (fun _ => none) (fun _ => none) (fun _ => none)
theorem onBool_elim {β : Type} {a : AV} {k : Bool → Option β} {r : β} {P : Prop} (e : onBool a k = some r) (h : ∀ b, a = .bool b → k b = some r → P) : P :=
  AV.casesOn (motive := fun b => a = b → onBool b k = some r → P) a (fun _ (e : none = some r) => noS e) (fun x0 q e => h x0 q e) (fun _ _ (e : none = some r) => noS e) (fun _ _ (e : none = some r) => noS e) (fun _ _ (e : none = some r) => noS e) (fun _ _ (e : none = some r) => noS e) (fun _ (e : none = some r) => noS e) (fun _ (e : none = some r) => noS e) (fun _ (e : none = some r) => noS e) (fun _ _ (e : none = some r) => noS e) (fun _ _ _ (e : none = some r) => noS e) (fun _ _ _ (e : none = some r) => noS e) (fun _ _ (e : none = some r) => noS e) (fun _ _ (e : none = some r) => noS e) (fun _ _ (e : none = some r) => noS e) (fun _ _ (e : none = some r) => noS e) rfl e
noncomputable def onAtl {β : Type} (a : AV) (k : Nat → Option β) : Option β := AV.casesOn (motive := fun _ => Option β) a (none) (fun _ => none) (fun _ => none) (fun _ => none) (fun _ => none) (fun _ => none) (none) (none) (none) k (fun _ _ => none) (fun _ _ => none) (fun _ => none) (fun _ => none) (fun _ => none) (fun _ => none)
theorem onAtl_elim {β : Type} {a : AV} {k : Nat → Option β} {r : β} {P : Prop} (e : onAtl a k = some r) (h : ∀ c, a = .atl c → k c = some r → P) : P :=
  AV.casesOn (motive := fun b => a = b → onAtl b k = some r → P) a (fun _ (e : none = some r) => noS e) (fun _ _ (e : none = some r) => noS e) (fun _ _ (e : none = some r) => noS e) (fun _ _ (e : none = some r) => noS e) (fun _ _ (e : none = some r) => noS e) (fun _ _ (e : none = some r) => noS e) (fun _ (e : none = some r) => noS e) (fun _ (e : none = some r) => noS e) (fun _ (e : none = some r) => noS e) (fun x0 q e => h x0 q e) (fun _ _ _ (e : none = some r) => noS e) (fun _ _ _ (e : none = some r) => noS e) (fun _ _ (e : none = some r) => noS e) (fun _ _ (e : none = some r) => noS e) (fun _ _ (e : none = some r) => noS e) (fun _ _ (e : none = some r) => noS e) rfl e
noncomputable def onPar {β : Type} (a : AV) (k : Nat → Option β) : Option β := AV.casesOn (motive := fun _ => Option β) a (none) (fun _ => none) (fun _ => none) (fun _ => none) (fun _ => none) (fun _ => none) (none) (none) (none) (fun _ => none) (fun _ _ => none) (fun _ _ => none) (fun _ => none) (fun _ => none) (fun _ => none) k
theorem onPar_elim {β : Type} {a : AV} {k : Nat → Option β} {r : β} {P : Prop} (e : onPar a k = some r) (h : ∀ c, a = .par c → k c = some r → P) : P :=
  AV.casesOn (motive := fun b => a = b → onPar b k = some r → P) a (fun _ (e : none = some r) => noS e) (fun _ _ (e : none = some r) => noS e) (fun _ _ (e : none = some r) => noS e) (fun _ _ (e : none = some r) => noS e) (fun _ _ (e : none = some r) => noS e) (fun _ _ (e : none = some r) => noS e) (fun _ (e : none = some r) => noS e) (fun _ (e : none = some r) => noS e) (fun _ (e : none = some r) => noS e) (fun _ _ (e : none = some r) => noS e) (fun _ _ _ (e : none = some r) => noS e) (fun _ _ _ (e : none = some r) => noS e) (fun _ _ (e : none = some r) => noS e) (fun _ _ (e : none = some r) => noS e) (fun _ _ (e : none = some r) => noS e) (fun x0 q e => h x0 q e) rfl e
noncomputable def onRes {β : Type} (a : AV) (k : Nat → Nat → Option β) : Option β := AV.casesOn (motive := fun _ => Option β) a (none) (fun _ => none) (fun _ => none) (fun _ => none) (fun _ => none) (fun _ => none) (none) (none) (none) (fun _ => none) k (fun _ _ => none) (fun _ => none) (fun _ => none) (fun _ => none) (fun _ => none)
theorem onRes_elim {β : Type} {a : AV} {k : Nat → Nat → Option β} {r : β} {P : Prop} (e : onRes a k = some r) (h : ∀ m j, a = .res m j → k m j = some r → P) : P :=
  AV.casesOn (motive := fun b => a = b → onRes b k = some r → P) a (fun _ (e : none = some r) => noS e) (fun _ _ (e : none = some r) => noS e) (fun _ _ (e : none = some r) => noS e) (fun _ _ (e : none = some r) => noS e) (fun _ _ (e : none = some r) => noS e) (fun _ _ (e : none = some r) => noS e) (fun _ (e : none = some r) => noS e) (fun _ (e : none = some r) => noS e) (fun _ (e : none = some r) => noS e) (fun _ _ (e : none = some r) => noS e) (fun x0 x1 q e => h x0 x1 q e) (fun _ _ _ (e : none = some r) => noS e) (fun _ _ (e : none = some r) => noS e) (fun _ _ (e : none = some r) => noS e) (fun _ _ (e : none = some r) => noS e) (fun _ _ (e : none = some r) => noS e) rfl e
noncomputable def onBig {β : Type} (a : AV) (k : Nat → Nat → Option β) : Option β := AV.casesOn (motive := fun _ => Option β) a (none) (fun _ => none) (fun _ => none) (fun _ => none) (fun _ => none) (fun _ => none) (none) (none) (none) (fun _ => none) (fun _ _ => none) k (fun _ => none) (fun _ => none) (fun _ => none) (fun _ => none)
theorem onBig_elim {β : Type} {a : AV} {k : Nat → Nat → Option β} {r : β} {P : Prop} (e : onBig a k = some r) (h : ∀ c j, a = .big c j → k c j = some r → P) : P :=
  AV.casesOn (motive := fun b => a = b → onBig b k = some r → P) a (fun _ (e : none = some r) => noS e) (fun _ _ (e : none = some r) => noS e) (fun _ _ (e : none = some r) => noS e) (fun _ _ (e : none = some r) => noS e) (fun _ _ (e : none = some r) => noS e) (fun _ _ (e : none = some r) => noS e) (fun _ (e : none = some r) => noS e) (fun _ (e : none = some r) => noS e) (fun _ (e : none = some r) => noS e) (fun _ _ (e : none = some r) => noS e) (fun _ _ _ (e : none = some r) => noS e) (fun x0 x1 q e => h x0 x1 q e) (fun _ _ (e : none = some r) => noS e) (fun _ _ (e : none = some r) => noS e) (fun _ _ (e : none = some r) => noS e) (fun _ _ (e : none = some r) => noS e) rfl e
noncomputable def onNone {β : Type} (a : AV) (k : Option β) : Option β := AV.casesOn (motive := fun _ => Option β) a k (fun _ => none) (fun _ => none) (fun _ => none) (fun _ => none) (fun _ => none) (none) (none) (none) (fun _ => none) (fun _ _ => none) (fun _ _ => none) (fun _ => none) (fun _ => none) (fun _ => none) (fun _ => none)
theorem onNone_elim {β : Type} {a : AV} {k : Option β} {r : β} {P : Prop} (e : onNone a k = some r) (h : a = .none → k = some r → P) : P :=
  AV.casesOn (motive := fun b => a = b → onNone b k = some r → P) a (fun q e => h q e) (fun _ _ (e : none = some r) => noS e) (fun _ _ (e : none = some r) => noS e) (fun _ _ (e : none = some r) => noS e) (fun _ _ (e : none = some r) => noS e) (fun _ _ (e : none = some r) => noS e) (fun _ (e : none = some r) => noS e) (fun _ (e : none = some r) => noS e) (fun _ (e : none = some r) => noS e) (fun _ _ (e : none = some r) => noS e) (fun _ _ _ (e : none = some r) => noS e) (fun _ _ _ (e : none = some r) => noS e) (fun _ _ (e : none = some r) => noS e) (fun _ _ (e : none = some r) => noS e) (fun _ _ (e : none = some r) => noS e) (fun _ _ (e : none = some r) => noS e) rfl e
noncomputable def onAint {β : Type} (a : AV) (k : Option β) : Option β := AV.casesOn (motive := fun _ => Option β) a (none) (fun _ => none) (fun _ => none) (fun _ => none) (fun _ => none) (fun _ => none) k (none) (none) (fun _ => none) (fun _ _ => none) (fun _ _ => none) (fun _ => none) (fun _ => none) (fun _ => none) (fun _ => none)
theorem onAint_elim {β : Type} {a : AV} {k : Option β} {r : β} {P : Prop} (e : onAint a k = some r) (h : a = .aint → k = some r → P) : P :=
  AV.casesOn (motive := fun b => a = b → onAint b k = some r → P) a (fun _ (e : none = some r) => noS e) (fun _ _ (e : none = some r) => noS e) (fun _ _ (e : none = some r) => noS e) (fun _ _ (e : none = some r) => noS e) (fun _ _ (e : none = some r) => noS e) (fun _ _ (e : none = some r) => noS e) (fun q e => h q e) (fun _ (e : none = some r) => noS e) (fun _ (e : none = some r) => noS e) (fun _ _ (e : none = some r) => noS e) (fun _ _ _ (e : none = some r) => noS e) (fun _ _ _ (e : none = some r) => noS e) (fun _ _ (e : none = some r) => noS e) (fun _ _ (e : none = some r) => noS e) (fun _ _ (e : none = some r) => noS e) (fun _ _ (e : none = some r) => noS e) rfl e
noncomputable def onSint {β : Type} (a : AV) (k : Option β) : Option β := AV.casesOn (motive := fun _ => Option β) a (none) (fun _ => none) (fun _ => none) (fun _ => none) (fun _ => none) (fun _ => none) (none) k (none) (fun _ => none) (fun _ _ => none) (fun _ _ => none) (fun _ => none) (fun _ => none) (fun _ => none) (fun _ => none)
theorem onSint_elim {β : Type} {a : AV} {k : Option β} {r : β} {P : Prop} (e : onSint a k = some r) (h : a = .sint → k = some r → P) : P :=
  AV.casesOn (motive := fun b => a = b → onSint b k = some r → P) a (fun _ (e : none = some r) => noS e) (fun _ _ (e : none = some r) => noS e) (fun _ _ (e : none = some r) => noS e) (fun _ _ (e : none = some r) => noS e) (fun _ _ (e : none = some r) => noS e) (fun _ _ (e : none = some r) => noS e) (fun _ (e : none = some r) => noS e) (fun q e => h q e) (fun _ (e : none = some r) => noS e) (fun _ _ (e : none = some r) => noS e) (fun _ _ _ (e : none = some r) => noS e) (fun _ _ _ (e : none = some r) => noS e) (fun _ _ (e : none = some r) => noS e) (fun _ _ (e : none = some r) => noS e) (fun _ _ (e : none = some r) => noS e) (fun _ _ (e : none = some r) => noS e) rfl e
noncomputable def onNpos {β : Type} (a : AV) (k : Option β) : Option β := AV.casesOn (motive := fun _ => Option β) a (none) (fun _ => none) (fun _ => none) (fun _ => none) (fun _ => none) (fun _ => none) (none) (none) k (fun _ => none) (fun _ _ => none) (fun _ _ => none) (fun _ => none) (fun _ => none) (fun _ => none) (fun _ => none)
theorem onNpos_elim {β : Type} {a : AV} {k : Option β} {r : β} {P : Prop} (e : onNpos a k = some r) (h : a = .npos → k = some r → P) : P :=
  AV.casesOn (motive := fun b => a = b → onNpos b k = some r → P) a (fun _ (e : none = some r) => noS e) (fun _ _ (e : none = some r) => noS e) (fun _ _ (e : none = some r) => noS e) (fun _ _ (e : none = some r) => noS e) (fun _ _ (e : none = some r) => noS e) (fun _ _ (e : none = some r) => noS e) (fun _ (e : none = some r) => noS e) (fun _ (e : none = some r) => noS e) (fun q e => h q e) (fun _ _ (e : none = some r) => noS e) (fun _ _ _ (e : none = some r) => noS e) (fun _ _ _ (e : none = some r) => noS e) (fun _ _ (e : none = some r) => noS e) (fun _ _ (e : none = some r) => noS e) (fun _ _ (e : none = some r) => noS e) (fun _ _ (e : none = some r) => noS e) rfl e
noncomputable def onList {β : Type} (a : Option AO) (k : List AV → Option β) : Option β := Option.casesOn (motive := fun _ => Option β) a none fun o => AO.casesOn (motive := fun _ => Option β) o k (fun _ => none) (fun _ _ => none) (fun _ => none) (fun _ _ _ => none) (fun _ => none) (fun _ => none) (fun _ => none) (fun _ _ _ _ => none) (none)
theorem onList_elim {β : Type} {a : Option AO} {k : List AV → Option β} {r : β} {P : Prop} (e : onList a k = some r) (h : ∀ xs, a = some (.list xs) → k xs = some r → P) : P :=
  Option.casesOn (motive := fun b => a = b → onList b k = some r → P) a (fun _ (e : none = some r) => noS e) (fun o => AO.casesOn (motive := fun o => a = some o → onList (some o) k = some r → P) o (fun x0 q e => h x0 q e) (fun _ _ (e : none = some r) => noS e) (fun _ _ _ (e : none = some r) => noS e) (fun _ _ (e : none = some r) => noS e) (fun _ _ _ _ (e : none = some r) => noS e) (fun _ _ (e : none = some r) => noS e) (fun _ _ (e : none = some r) => noS e) (fun _ _ (e : none = some r) => noS e) (fun _ _ _ _ _ (e : none = some r) => noS e) (fun _ (e : none = some r) => noS e)) rfl e
noncomputable def onTup {β : Type} (a : Option AO) (k : List AV → Option β) : Option β := Option.casesOn (motive := fun _ => Option β) a none fun o => AO.casesOn (motive := fun _ => Option β) o (fun _ => none) k (fun _ _ => none) (fun _ => none) (fun _ _ _ => none) (fun _ => none) (fun _ => none) (fun _ => none) (fun _ _ _ _ => none) (none)
theorem onTup_elim {β : Type} {a : Option AO} {k : List AV → Option β} {r : β} {P : Prop} (e : onTup a k = some r) (h : ∀ xs, a = some (.tup xs) → k xs = some r → P) : P :=
  Option.casesOn (motive := fun b => a = b → onTup b k = some r → P) a (fun _ (e : none = some r) => noS e) (fun o => AO.casesOn (motive := fun o => a = some o → onTup (some o) k = some r → P) o (fun _ _ (e : none = some r) => noS e) (fun x0 q e => h x0 q e) (fun _ _ _ (e : none = some r) => noS e) (fun _ _ (e : none = some r) => noS e) (fun _ _ _ _ (e : none = some r) => noS e) (fun _ _ (e : none = some r) => noS e) (fun _ _ (e : none = some r) => noS e) (fun _ _ (e : none = some r) => noS e) (fun _ _ _ _ _ (e : none = some r) => noS e) (fun _ (e : none = some r) => noS e)) rfl e
noncomputable def onDI {β : Type} (a : Option AO) (k : List (Int × AV) → Nat → Option β) : Option β := Option.casesOn (motive := fun _ => Option β) a none fun o => AO.casesOn (motive := fun _ => Option β) o (fun _ => none) (fun _ => none) k (fun _ => none) (fun _ _ _ => none) (fun _ => none) (fun _ => none) (fun _ => none) (fun _ _ _ _ => none) (none)
theorem onDI_elim {β : Type} {a : Option AO} {k : List (Int × AV) → Nat → Option β} {r : β} {P : Prop} (e : onDI a k = some r) (h : ∀ es ep, a = some (.dictI es ep) → k es ep = some r → P) : P :=
  Option.casesOn (motive := fun b => a = b → onDI b k = some r → P) a (fun _ (e : none = some r) => noS e) (fun o => AO.casesOn (motive := fun o => a = some o → onDI (some o) k = some r → P) o (fun _ _ (e : none = some r) => noS e) (fun _ _ (e : none = some r) => noS e) (fun x0 x1 q e => h x0 x1 q e) (fun _ _ (e : none = some r) => noS e) (fun _ _ _ _ (e : none = some r) => noS e) (fun _ _ (e : none = some r) => noS e) (fun _ _ (e : none = some r) => noS e) (fun _ _ (e : none = some r) => noS e) (fun _ _ _ _ _ (e : none = some r) => noS e) (fun _ (e : none = some r) => noS e)) rfl e
noncomputable def onDS {β : Type} (a : Option AO) (k : List (List Nat × AV) → Option β) : Option β := Option.casesOn (motive := fun _ => Option β) a none fun o => AO.casesOn (motive := fun _ => Option β) o (fun _ => none) (fun _ => none) (fun _ _ => none) k (fun _ _ _ => none) (fun _ => none) (fun _ => none) (fun _ => none) (fun _ _ _ _ => none) (none)
theorem onDS_elim {β : Type} {a : Option AO} {k : List (List Nat × AV) → Option β} {r : β} {P : Prop} (e : onDS a k = some r) (h : ∀ es, a = some (.dictS es) → k es = some r → P) : P :=
  Option.casesOn (motive := fun b => a = b → onDS b k = some r → P) a (fun _ (e : none = some r) => noS e) (fun o => AO.casesOn (motive := fun o => a = some o → onDS (some o) k = some r → P) o (fun _ _ (e : none = some r) => noS e) (fun _ _ (e : none = some r) => noS e) (fun _ _ _ (e : none = some r) => noS e) (fun x0 q e => h x0 q e) (fun _ _ _ _ (e : none = some r) => noS e) (fun _ _ (e : none = some r) => noS e) (fun _ _ (e : none = some r) => noS e) (fun _ _ (e : none = some r) => noS e) (fun _ _ _ _ _ (e : none = some r) => noS e) (fun _ (e : none = some r) => noS e)) rfl e
noncomputable def onMat {β : Type} (a : Option AO) (k : List Nat → Nat → Nat → Option β) : Option β := Option.casesOn (motive := fun _ => Option β) a none fun o => AO.casesOn (motive := fun _ => Option β) o (fun _ => none) (fun _ => none) (fun _ _ => none) (fun _ => none) k (fun _ => none) (fun _ => none) (fun _ => none) (fun _ _ _ _ => none) (none)
theorem onMat_elim {β : Type} {a : Option AO} {k : List Nat → Nat → Nat → Option β} {r : β} {P : Prop} (e : onMat a k = some r) (h : ∀ t i j, a = some (.mat t i j) → k t i j = some r → P) : P :=
  Option.casesOn (motive := fun b => a = b → onMat b k = some r → P) a (fun _ (e : none = some r) => noS e) (fun o => AO.casesOn (motive := fun o => a = some o → onMat (some o) k = some r → P) o (fun _ _ (e : none = some r) => noS e) (fun _ _ (e : none = some r) => noS e) (fun _ _ _ (e : none = some r) => noS e) (fun _ _ (e : none = some r) => noS e) (fun x0 x1 x2 q e => h x0 x1 x2 q e) (fun _ _ (e : none = some r) => noS e) (fun _ _ (e : none = some r) => noS e) (fun _ _ (e : none = some r) => noS e) (fun _ _ _ _ _ (e : none = some r) => noS e) (fun _ (e : none = some r) => noS e)) rfl e
noncomputable def onRuns {β : Type} (a : Option AO) (k : Rk → Option β) : Option β := Option.casesOn (motive := fun _ => Option β) a none fun o => AO.casesOn (motive := fun _ => Option β) o (fun _ => none) (fun _ => none) (fun _ _ => none) (fun _ => none) (fun _ _ _ => none) k (fun _ => none) (fun _ => none) (fun _ _ _ _ => none) (none)
theorem onRuns_elim {β : Type} {a : Option AO} {k : Rk → Option β} {r : β} {P : Prop} (e : onRuns a k = some r) (h : ∀ y, a = some (.runs y) → k y = some r → P) : P :=
  Option.casesOn (motive := fun b => a = b → onRuns b k = some r → P) a (fun _ (e : none = some r) => noS e) (fun o => AO.casesOn (motive := fun o => a = some o → onRuns (some o) k = some r → P) o (fun _ _ (e : none = some r) => noS e) (fun _ _ (e : none = some r) => noS e) (fun _ _ _ (e : none = some r) => noS e) (fun _ _ (e : none = some r) => noS e) (fun _ _ _ _ (e : none = some r) => noS e) (fun x0 q e => h x0 q e) (fun _ _ (e : none = some r) => noS e) (fun _ _ (e : none = some r) => noS e) (fun _ _ _ _ _ (e : none = some r) => noS e) (fun _ (e : none = some r) => noS e)) rfl e
noncomputable def onInst {β : Type} (a : Option AO) (k : Nat → Option β) : Option β := Option.casesOn (motive := fun _ => Option β) a none fun o => AO.casesOn (motive := fun _ => Option β) o (fun _ => none) (fun _ => none) (fun _ _ => none) (fun _ => none) (fun _ _ _ => none) (fun _ => none) k (fun _ => none) (fun _ _ _ _ => none) (none)
theorem onInst_elim {β : Type} {a : Option AO} {k : Nat → Option β} {r : β} {P : Prop} (e : onInst a k = some r) (h : ∀ j, a = some (.inst j) → k j = some r → P) : P :=
  Option.casesOn (motive := fun b => a = b → onInst b k = some r → P) a (fun _ (e : none = some r) => noS e) (fun o => AO.casesOn (motive := fun o => a = some o → onInst (some o) k = some r → P) o (fun _ _ (e : none = some r) => noS e) (fun _ _ (e : none = some r) => noS e) (fun _ _ _ (e : none = some r) => noS e) (fun _ _ (e : none = some r) => noS e) (fun _ _ _ _ (e : none = some r) => noS e) (fun _ _ (e : none = some r) => noS e) (fun x0 q e => h x0 q e) (fun _ _ (e : none = some r) => noS e) (fun _ _ _ _ _ (e : none = some r) => noS e) (fun _ (e : none = some r) => noS e)) rfl e
noncomputable def onIdict {β : Type} (a : Option AO) (k : List (Nat × AV) → Option β) : Option β := Option.casesOn (motive := fun _ => Option β) a none fun o => AO.casesOn (motive := fun _ => Option β) o (fun _ => none) (fun _ => none) (fun _ _ => none) (fun _ => none) (fun _ _ _ => none) (fun _ => none) (fun _ => none) k (fun _ _ _ _ => none) (none)
theorem onIdict_elim {β : Type} {a : Option AO} {k : List (Nat × AV) → Option β} {r : β} {P : Prop} (e : onIdict a k = some r) (h : ∀ es, a = some (.idict es) → k es = some r → P) : P :=
  Option.casesOn (motive := fun b => a = b → onIdict b k = some r → P) a (fun _ (e : none = some r) => noS e) (fun o => AO.casesOn (motive := fun o => a = some o → onIdict (some o) k = some r → P) o (fun _ _ (e : none = some r) => noS e) (fun _ _ (e : none = some r) => noS e) (fun _ _ _ (e : none = some r) => noS e) (fun _ _ (e : none = some r) => noS e) (fun _ _ _ _ (e : none = some r) => noS e) (fun _ _ (e : none = some r) => noS e) (fun _ _ (e : none = some r) => noS e) (fun x0 q e => h x0 q e) (fun _ _ _ _ _ (e : none = some r) => noS e) (fun _ (e : none = some r) => noS e)) rfl e
noncomputable def onWht {β : Type} (a : Option AO) (k : Nat → Nat → Nat → Nat → Option β) : Option β := Option.casesOn (motive := fun _ => Option β) a none fun o => AO.casesOn (motive := fun _ => Option β) o (fun _ => none) (fun _ => none) (fun _ _ => none) (fun _ => none) (fun _ _ _ => none) (fun _ => none) (fun _ => none) (fun _ => none) k (none)
theorem onWht_elim {β : Type} {a : Option AO} {k : Nat → Nat → Nat → Nat → Option β} {r : β} {P : Prop} (e : onWht a k = some r) (h : ∀ d i1 i2 i3, a = some (.wht d i1 i2 i3) → k d i1 i2 i3 = some r → P) : P :=
  Option.casesOn (motive := fun b => a = b → onWht b k = some r → P) a (fun _ (e : none = some r) => noS e) (fun o => AO.casesOn (motive := fun o => a = some o → onWht (some o) k = some r → P) o (fun _ _ (e : none = some r) => noS e) (fun _ _ (e : none = some r) => noS e) (fun _ _ _ (e : none = some r) => noS e) (fun _ _ (e : none = some r) => noS e) (fun _ _ _ _ (e : none = some r) => noS e) (fun _ _ (e : none = some r) => noS e) (fun _ _ (e : none = some r) => noS e) (fun _ _ (e : none = some r) => noS e) (fun x0 x1 x2 x3 q e => h x0 x1 x2 x3 q e) (fun _ (e : none = some r) => noS e)) rfl e
noncomputable def onPc {β : Type} (a : Sy) (k : Nat → Option β) : Option β := Sy.casesOn (motive := fun _ => Option β) a k (fun _ => none) (fun _ _ => none) (fun _ _ _ => none)
theorem onPc_elim {β : Type} {a : Sy} {k : Nat → Option β} {r : β} {P : Prop} (e : onPc a k = some r) (h : ∀ j, a = .pc j → k j = some r → P) : P :=
  Sy.casesOn (motive := fun b => a = b → onPc b k = some r → P) a (fun x0 q e => h x0 q e) (fun _ _ (e : none = some r) => noS e) (fun _ _ _ (e : none = some r) => noS e) (fun _ _ _ _ (e : none = some r) => noS e) rfl e
noncomputable def onLead {β : Type} (a : Sy) (k : Nat → Option β) : Option β := Sy.casesOn (motive := fun _ => Option β) a (fun _ => none) k (fun _ _ => none) (fun _ _ _ => none)
theorem onLead_elim {β : Type} {a : Sy} {k : Nat → Option β} {r : β} {P : Prop} (e : onLead a k = some r) (h : ∀ d, a = .lead d → k d = some r → P) : P :=
  Sy.casesOn (motive := fun b => a = b → onLead b k = some r → P) a (fun _ _ (e : none = some r) => noS e) (fun x0 q e => h x0 q e) (fun _ _ _ (e : none = some r) => noS e) (fun _ _ _ _ (e : none = some r) => noS e) rfl e
noncomputable def onWlead {β : Type} (a : Sy) (k : Nat → Bool → Option β) : Option β := Sy.casesOn (motive := fun _ => Option β) a (fun _ => none) (fun _ => none) k (fun _ _ _ => none)
theorem onWlead_elim {β : Type} {a : Sy} {k : Nat → Bool → Option β} {r : β} {P : Prop} (e : onWlead a k = some r) (h : ∀ d b, a = .wlead d b → k d b = some r → P) : P :=
  Sy.casesOn (motive := fun b => a = b → onWlead b k = some r → P) a (fun _ _ (e : none = some r) => noS e) (fun _ _ (e : none = some r) => noS e) (fun x0 x1 q e => h x0 x1 q e) (fun _ _ _ _ (e : none = some r) => noS e) rfl e
noncomputable def rkRuns {β : Type} (a : Rk) (k : Nat → Bool → Option β) : Option β := Rk.casesOn (motive := fun _ => Option β) a k (fun _ _ => none) (fun _ => none)
theorem rkRuns_elim {β : Type} {a : Rk} {k : Nat → Bool → Option β} {r : β} {P : Prop} (e : rkRuns a k = some r) (h : ∀ d b, a = .runs d b → k d b = some r → P) : P :=
  Rk.casesOn (motive := fun b => a = b → rkRuns b k = some r → P) a (fun x0 x1 q e => h x0 x1 q e) (fun _ _ _ (e : none = some r) => noS e) (fun _ _ (e : none = some r) => noS e) rfl e
noncomputable def rkInit {β : Type} (a : Rk) (k : Nat → Bool → Option β) : Option β := Rk.casesOn (motive := fun _ => Option β) a (fun _ _ => none) k (fun _ => none)
theorem rkInit_elim {β : Type} {a : Rk} {k : Nat → Bool → Option β} {r : β} {P : Prop} (e : rkInit a k = some r) (h : ∀ d b, a = .init d b → k d b = some r → P) : P :=
  Rk.casesOn (motive := fun b => a = b → rkInit b k = some r → P) a (fun _ _ _ (e : none = some r) => noS e) (fun x0 x1 q e => h x0 x1 q e) (fun _ _ (e : none = some r) => noS e) rfl e
noncomputable def rkLast {β : Type} (a : Rk) (k : Nat → Option β) : Option β := Rk.casesOn (motive := fun _ => Option β) a (fun _ _ => none) (fun _ _ => none) k
theorem rkLast_elim {β : Type} {a : Rk} {k : Nat → Option β} {r : β} {P : Prop} (e : rkLast a k = some r) (h : ∀ d, a = .last d → k d = some r → P) : P :=
  Rk.casesOn (motive := fun b => a = b → rkLast b k = some r → P) a (fun _ _ _ (e : none = some r) => noS e) (fun _ _ _ (e : none = some r) => noS e) (fun x0 q e => h x0 q e) rfl e
noncomputable def onNat {β : Type} (a : Int) (k : Nat → Option β) : Option β := match a with
  | .ofNat i => k i
  | _ => none
theorem onNat_elim {β : Type} {a : Int} {k : Nat → Option β} {r : β} {P : Prop} (e : onNat a k = some r) (h : ∀ i, a = .ofNat i → k i = some r → P) : P := by
  cases a with
  | ofNat i => exact h i rfl e
  | negSucc _ => exact noS e
noncomputable def onSucc {β : Type} (a : Nat) (k : Nat → Option β) : Option β := match a with
  | i + 1 => k i
  | _ => none
theorem onSucc_elim {β : Type} {a : Nat} {k : Nat → Option β} {r : β} {P : Prop} (e : onSucc a k = some r) (h : ∀ i, a = i + 1 → k i = some r → P) : P := by
  cases a with
  | zero => exact noS e
  | succ i => exact h i rfl e
noncomputable def on1 {α β : Type} (l : List α) (k : α → Option β) : Option β := match l with
  | [x] => k x
  | _ => none
theorem on1_elim {α β : Type} {l : List α} {k : α → Option β} {r : β} {P : Prop} (e : on1 l k = some r) (h : ∀ x, l = [x] → k x = some r → P) : P := by
  cases l with
  | nil => exact noS e
  | cons x l => cases l with
    | nil => exact h x rfl e
    | cons _ _ => exact noS e
noncomputable def onPair {α β : Type} (l : List α) (k : α → α → Option β) : Option β := match l with
  | [x, y] => k x y
  | _ => none
theorem onPair_elim {α β : Type} {l : List α} {k : α → α → Option β} {r : β} {P : Prop} (e : onPair l k = some r) (h : ∀ x y, l = [x, y] → k x y = some r → P) : P := by
  cases l with
  | nil => exact noS e
  | cons x l => cases l with
    | nil => exact noS e
    | cons y l => cases l with
      | nil => exact h x y rfl e
      | cons _ _ => exact noS e
noncomputable def on3 {α β : Type} (l : List α) (k : α → α → α → Option β) : Option β := match l with
  | [x, y, z] => k x y z
  | _ => none
theorem on3_elim {α β : Type} {l : List α} {k : α → α → α → Option β} {r : β} {P : Prop} (e : on3 l k = some r) (h : ∀ x y z, l = [x, y, z] → k x y z = some r → P) : P := by
  cases l with
  | nil => exact noS e
  | cons x l => cases l with
    | nil => exact noS e
    | cons y l => cases l with
      | nil => exact noS e
      | cons z l => cases l with
        | nil => exact h x y z rfl e
        | cons _ _ => exact noS e
noncomputable def on0 {α β : Type} (l : List α) (k : Option β) : Option β := match l with
  | [] => k
  | _ => none
theorem on0_elim {α β : Type} {l : List α} {k : Option β} {r : β} {P : Prop} (e : on0 l k = some r) (h : l = [] → k = some r → P) : P := by
  cases l with
  | nil => exact h rfl e
  | cons _ _ => exact noS e
noncomputable def onCons {α β : Type} (l : List α) (k : α → List α → Option β) : Option β := match l with
  | x :: r => k x r
  | _ => none
theorem onCons_elim {α β : Type} {l : List α} {k : α → List α → Option β} {r : β} {P : Prop} (e : onCons l k = some r) (h : ∀ x t, l = x :: t → k x t = some r → P) : P := by
  cases l with
  | nil => exact noS e
  | cons x t => exact h x t rfl e
/-! values told by their abstract ones -/
@[elab_as_elim] theorem rvs1 {as : List Addr} {a : AV} {x : List Value} {P : List Value → Prop} (hx : RVs C as [a] x) (h : ∀ w, RV C as a w → P [w]) : P x := by
  obtain ⟨w, r, rfl, hw, hr⟩ := hx
  cases hr
  exact h w hw
@[elab_as_elim] theorem rvs0 {as : List Addr} {x : List Value} {P : List Value → Prop} (hx : RVs C as [] x) (h : P []) : P x := by
  cases hx
  exact h
@[elab_as_elim] theorem rvs2 {as : List Addr} {a b : AV} {x : List Value} {P : List Value → Prop} (hx : RVs C as [a, b] x) (h : ∀ w z, RV C as a w → RV C as b z → P [w, z]) : P x := by
  obtain ⟨w, r, rfl, hw, z, r2, rfl, hz, hr⟩ := hx
  cases hr
  exact h w z hw hz
@[elab_as_elim] theorem rvs3 {as : List Addr} {a b c : AV} {x : List Value} {P : List Value → Prop} (hx : RVs C as [a, b, c] x) (h : ∀ w z u, RV C as a w → RV C as b z → RV C as c u → P [w, z, u]) : P x := by
  obtain ⟨w, r, rfl, hw, z, r2, rfl, hz, u, r3, rfl, hu, hr⟩ := hx
  cases hr
  exact h w z u hw hz hu
@[elab_as_elim] theorem rvInt {as : List Addr} {i : Int} {x : Value} {P : Value → Prop} (hx : RV C as (.int i) x) (h : ∀ t, P (.int i t)) : P x := by
  obtain ⟨t, rfl⟩ := hx
  exact h t
@[elab_as_elim] theorem rvStr {as : List Addr} {i : List Nat} {x : Value} {P : Value → Prop} (hx : RV C as (.str i) x) (h : ∀ t, P (.str ⟨i.toArray⟩ t)) : P x := by
  obtain ⟨t, rfl⟩ := hx
  exact h t
@[elab_as_elim] theorem rvByt {as : List Addr} {i : List Nat} {x : Value} {P : Value → Prop} (hx : RV C as (.byt i) x) (h : ∀ t, P (.bytes (i.map UInt8.ofNat).toArray t)) : P x := by
  obtain ⟨t, rfl⟩ := hx
  exact h t
@[elab_as_elim] theorem rvSym {as : List Addr} {y : Sy} {x : Value} {P : Value → Prop} (hx : RV C as (.sym y) x) (h : ∀ t, P (.str ⟨(syS C.cs y).toArray⟩ t)) : P x := by
  obtain ⟨t, rfl⟩ := hx
  exact h t
@[elab_as_elim] theorem rvNone {as : List Addr} {x : Value} {P : Value → Prop} (hx : RV C as .none x) (h : P .none) : P x := by
  cases hx
  exact h
/-! what is given back -/
theorem kRet {hk : Heap} {L : Fm} {lc : Loc} {Q : Value → Shared → Prop} {s : Shared} {as : List Addr} {a v : AV} {b os' : Store} (e : some (a, b) = some (v, os'))
    (K : ∀ as' h' tk val, as <+: as' → Rel C hk as' ⟨lc, os'⟩ L h' → RV C as' v val → Q val { s with heap := h', toks := tk }) :
    ∀ as' h' tk val, as <+: as' → Rel C hk as' ⟨lc, b⟩ L h' → RV C as' a val → Q val { s with heap := h', toks := tk } := by cases e; exact K
theorem kRetP {Q : Value → Shared → Prop} {s : Shared} {as : List Addr} {a v : AV} (e : some a = some v)
    (K : ∀ tk val, RV C as v val → Q val { s with toks := tk }) : ∀ tk val, RV C as a val → Q val { s with toks := tk } := by cases e; exact K
theorem kRetT {β α : Type} {V : List Addr → β → α → Prop} {hk : Heap} {L : Fm} {Q : α → Shared → Prop} {s : Shared} {as : List Addr} {a v : β} {b st' : St} (e : some (a, b) = some (v, st'))
    (K : ∀ as' h' tk val, as <+: as' → Rel C hk as' st' L h' → V as' v val → Q val { s with heap := h', toks := tk }) :
    ∀ as' h' tk val, as <+: as' → Rel C hk as' b L h' → V as' a val → Q val { s with heap := h', toks := tk } := by cases e; exact K
theorem kRetB {hk : Heap} {L : Fm} {Q : Value → Shared → Prop} {s : Shared} {as : List Addr} {a v : Bool} {st : St} (e : some a = some v)
    (K : ∀ h' tk, Rel C hk as st L h' → Q (.bool v) { s with heap := h', toks := tk }) : ∀ h' tk, Rel C hk as st L h' → Q (.bool a) { s with heap := h', toks := tk } := by cases e; exact K
/-! leaves -/
noncomputable def cVar (k : Nat) : St → Option (AV × St) := fun s => match lk k s.loc with
  | some v => some (v, s)
  | none => none
theorem nm_debug : ∀ k, k < 65 → (nm k == ("__debug__" : Str)) = false := by
  have h : (List.range 65).all (fun k => nm k == ("__debug__" : Str)) = false ∧ (List.range 65).all (fun k => !(nm k == ("__debug__" : Str))) = true := by decide +kernel
  intro k hk
  have h1 := List.all_eq_true.mp h.2 k (List.mem_range.mpr hk)
  simpa using h1
theorem RefE.var {k : Nat} {pos : Pos} (hk : sc.s.names.lookup (nm k) = some .local) : RefE C n sc (.Name (nm k) pos) (cVar k) := by
  intro A env E s hk' as st st' v Q R F e X K
  unfold cVar at e
  cases q : lk k st.loc with
  | none => rw [q] at e; cases e
  | some u =>
    rw [q] at e
    cases e
    obtain ⟨m, hn, hl⟩ := X.ns
    obtain ⟨k50, val, hm, hv⟩ := hl k v q
    unfold VarAt at hm
    rw [show (fmOf sc env).cl = env.cells from rfl, F.lc _ hk] at hm
    exact wpAny_Name (wpAny_loadName_local F.fn (F.kindOf hk) hn hm (K as s.heap s.toks val (List.prefix_refl _) X hv)) (nm_debug k k50)
theorem RefE.varC {k : Nat} {pos : Pos} (hk : sc.s.names.lookup (nm k) = some .cell) : RefE C n sc (.Name (nm k) pos) (cVar k) := by
  intro A env E s hk' as st st' v Q R F e X K
  unfold cVar at e
  cases q : lk k st.loc with
  | none => rw [q] at e; cases e
  | some u =>
    rw [q] at e
    cases e
    obtain ⟨m, hn, hl⟩ := X.ns
    obtain ⟨k50, val, hm, hv⟩ := hl k v q
    obtain ⟨ca, hca⟩ := F.cc _ hk
    unfold VarAt at hm
    rw [show (fmOf sc env).cl = env.cells from rfl, hca] at hm
    exact wpAny_Name (wpAny_loadName_cell F.fn (F.kindOf hk) hca hm (K as s.heap s.toks val (List.prefix_refl _) X hv)) (nm_debug k k50)
noncomputable def cInt (i : Int) : St → Option (AV × St) := fun s => some (.int i, s)
theorem RefE.int {i : Int} {k : Nat} {pos : Pos} : RefE C n sc (.Constant (.int i) k pos) (cInt i) := by
  intro A env E s hk as st st' v Q R F e X K
  cases e
  exact wpAny_Constant_int (K as _ _ _ (List.prefix_refl _) X ⟨_, rfl⟩)
noncomputable def cStr (x : List Nat) : St → Option (AV × St) := fun s => some (.str x, s)
theorem RefE.str {x : Str} {l : List Nat} {k : Nat} {pos : Pos} (h : x.cps.toList = l) : RefE C n sc (.Constant (.str x) k pos) (cStr l) := by
  intro A env E s hk as st st' v Q R F e X K
  cases e
  subst h
  exact wpAny_Constant_str (K as _ _ _ (List.prefix_refl _) X ⟨_, rfl⟩)
noncomputable def cByt (x : List Nat) : St → Option (AV × St) := fun s => some (.byt x, s)
theorem RefE.byt {b : List UInt8} {l : List Nat} {k : Nat} {pos : Pos} (h : l.map UInt8.ofNat = b) : RefE C n sc (.Constant (.bytes b) k pos) (cByt l) := by
  intro A env E s hk as st st' v Q R F e X K
  cases e
  subst h
  exact fun Γ p hΓ => K as s.heap (s.toks + 1) _ (List.prefix_refl _) X ⟨s.toks, rfl⟩ 
noncomputable def cBool (b : Bool) : St → Option (AV × St) := fun s => some (.bool b, s)
theorem RefE.bool {b : Bool} {k : Nat} {pos : Pos} : RefE C n sc (.Constant (.bool b) k pos) (cBool b) := by
  intro A env E s hk as st st' v Q R F e X K
  cases e
  exact wpAny_Constant_bool (K as s.heap s.toks _ (List.prefix_refl _) X rfl)
/-! operators -/
noncomputable def OpOk (C : Cx) (t : Value → Value → Sem Value) (op : AV → AV → Store → Option (AV × Store)) : Prop :=
  ∀ ⦃A : Around⦄ ⦃E : Value → Shared → Prop⦄ ⦃s : Shared⦄ ⦃hk : Heap⦄ ⦃as : List Addr⦄ ⦃st : St⦄ ⦃L : Fm⦄ ⦃a b v : AV⦄ ⦃x y : Value⦄ ⦃os' : Store⦄ ⦃Q : Value → Shared → Prop⦄,
    A.handled = none → A.units < cLine → op a b st.os = some (v, os') → Rel C hk as st L s.heap → RV C as a x → RV C as b y →
    (∀ as' h' tk val, as <+: as' → Rel C hk as' ⟨st.loc, os'⟩ L h' → RV C as' v val → Q val { s with heap := h', toks := tk }) → wpAny (model prog C.w) A (t x y) Q E s
noncomputable def cBin (op : AV → AV → Store → Option (AV × Store)) (f g : St → Option (AV × St)) : St → Option (AV × St) := fun s => ob (f s) fun a s1 => ob (g s1) fun b s2 => ob (op a b s2.os) fun v o => mkS v s2 o
theorem RefE.bin {l r : Expr} {bop : Operator} {pos : Pos} {op} {f g} (hop : OpOk C (binaryOp bop) op) (hf : RefE C n sc l f) (hg : RefE C n sc r g) : RefE C n sc (.BinOp l bop r pos) (cBin op f g) := by
  intro A env E s hk as st st' v Q R F e X K
  refine ob_elim e fun a s1 q1 e => ob_elim e fun b s2 q2 e => ob_elim e fun u o q3 z => ?_
  refine wpAny_BinOp (hf R F q1 X fun as1 h1 t1 x p1 X1 hx => hg R F q2 X1 fun as2 h2 t2 y p2 X2 hy => ?_)
  exact hop (R.handled) R.u0 q3 X2 (hx.mono p2) hy fun as3 h3 t3 val p3 X3 hv => kRetT z K as3 h3 t3 val (p1.trans (p2.trans p3)) X3 hv
/-- an operator that leaves the store be -/
theorem OpOk.pure {t : Value → Value → Sem Value} {op : AV → AV → Option AV}
    (h : ∀ {A : Around} {E : Value → Shared → Prop} {s : Shared} {as : List Addr} {a b v : AV} {x y : Value} {Q : Value → Shared → Prop}, A.handled = none → A.units < cLine → op a b = some v → RV C as a x → RV C as b y →
      (∀ tk val, RV C as v val → Q val { s with toks := tk }) → wpAny (model prog C.w) A (t x y) Q E s) :
    OpOk C t (fun a b os => o1 (op a b) fun v => some (v, os)) := by
  intro A E s hk as st L a b v x y os' Q hh hu e X hx hy K
  exact o1_elim e fun u q z => h hh hu q hx hy fun tk val hv => kRet z K as s.heap tk val (List.prefix_refl _) X hv
noncomputable def pAdd (a b : AV) : Option AV := alt (onInt a fun i => onInt b fun j => some (.int (i + j))) (alt
  (onStr a fun i => onStr b fun j => bT (Nat.ble (i.length + j.length) 2000) <| some (.str (i ++ j)))
  (onByt a fun i => onByt b fun j => bT (Nat.ble (i.length + j.length) 2000) <| some (.byt (i ++ j))))
noncomputable def pAnd (a b : AV) : Option AV := onInt a fun i => onNat i fun m => onInt b fun j => onNat j fun n => some (.int (.ofNat (Nat.land m n)))
noncomputable def pPow (a b : AV) : Option AV := onInt a fun i => onNat i fun m => onInt b fun j => onNat j fun n => bT (Nat.ble n 100) <| bT (Nat.ble m 100) <| some (.int (.ofNat (m ^ n)))
end
end Mine
end
end
section
set_option maxRecDepth 100000
set_option linter.unusedVariables false
set_option autoImplicit false
set_option genSizeOf false
set_option genInjectivity false
noncomputable section
namespace Mine
open PySem PySem.W PyProof.Rows
section
variable {C : Cx} {n : Nat} {sc : Sc}
theorem line_is : sizeLine = 16777216 := rfl
theorem ble_iff {a b : Nat} : Nat.ble a b = true ↔ a ≤ b := by rw [Nat.ble_eq]
theorem two_line {a b : Nat} (h : Nat.ble (a + b) 2000 = true) : a + b < sizeLine := by
  have := ble_iff.mp h
  rw [line_is]; omega
theorem str_len (l : List Nat) : (⟨l.toArray⟩ : Str).length = l.length := rfl
theorem pAdd_ok {A : Around} {E : Value → Shared → Prop} {s : Shared} {as : List Addr} {a b v : AV} {x y : Value} {Q : Value → Shared → Prop} (e : pAdd a b = some v) (hx : RV C as a x) (hy : RV C as b y)
    (K : ∀ tk val, RV C as v val → Q val { s with toks := tk }) : wpAny (model prog C.w) A (binaryOp .Add x y) Q E s := by
  refine alt_elim e (fun e => onInt_elim e fun i hi e => onInt_elim e fun j hj z => ?_) fun e => alt_elim e (fun e => onStr_elim e fun i hi e => onStr_elim e fun j hj e => bT_elim e fun q z => ?_) fun e => onByt_elim e fun i hi e => onByt_elim e fun j hj e => bT_elim e fun q z => ?_
  · subst hi hj
    exact rvInt hx fun t => rvInt hy fun u => wpAny_add_int (kRetP z K _ _ ⟨_, rfl⟩)
  · subst hi hj
    exact rvStr hx fun t => rvStr hy fun u => add_str (fun t' tk => kRetP z K _ _ ⟨t', congrArg (fun z => Value.str ⟨z⟩ t') (List.append_toArray _ _)⟩) (Nat.le_of_lt (two_line q))
  · subst hi hj
    refine rvByt hx fun t => rvByt hy fun u => KBy.add_bytes (by have := ble_iff.mp q; simp; omega) (fun t' tk => kRetP z K _ _ ⟨t', ?_⟩)
    simp
noncomputable def opAdd (a b : AV) (os : Store) : Option (AV × Store) := alt
  (onRef a fun i => onRef b fun j => onList (os.get i) fun xs => onList (os.get j) fun ys => bT (Nat.ble (xs.length + ys.length) 2000) <| os.new (.list (xs ++ ys)))
  (o1 (pAdd a b) fun v => some (v, os))
/-- the list that a number means -/
theorem Rel.listAt {hk : Heap} {as : List Addr} {st : St} {L : Fm} {h : Heap} (X : Rel C hk as st L h) {i : Nat} {xs : List AV} (e : st.os.get i = some (.list xs)) {x : Value} (hx : RV C as (.ref i) x) :
    ∃ a items m, x = .ref a ∧ as[i]? = some a ∧ IsL h a items m ∧ RVs C as xs items.toList := by
  obtain ⟨a, ha, items, m, hl, hr⟩ := X.S.obj i _ e
  obtain ⟨a', ha', rfl⟩ := hx
  rw [ha] at ha'
  cases ha'
  exact ⟨a, items, m, rfl, ha, hl, hr⟩
theorem Rel.tupAt {hk : Heap} {as : List Addr} {st : St} {L : Fm} {h : Heap} (X : Rel C hk as st L h) {i : Nat} {xs : List AV} (e : st.os.get i = some (.tup xs)) {x : Value} (hx : RV C as (.ref i) x) :
    ∃ a items, x = .ref a ∧ as[i]? = some a ∧ h.get? a = some { cls := .type "tuple", dict := none, data := .seq items 0, slots := #[] } ∧ RVs C as xs items.toList := by
  obtain ⟨a, ha, items, hl, hr⟩ := X.S.obj i _ e
  obtain ⟨a', ha', rfl⟩ := hx
  rw [ha] at ha'
  cases ha'
  exact ⟨a, items, rfl, ha, hl, hr⟩
@[elab_as_elim] theorem Rel.listE {hk : Heap} {as : List Addr} {st : St} {L : Fm} {h : Heap} (X : Rel C hk as st L h) {i : Nat} {xs : List AV} (e : st.os.get i = some (.list xs)) {x : Value} {P : Value → Prop} (hx : RV C as (.ref i) x)
    (k : ∀ a items m, as[i]? = some a → IsL h a items m → RVs C as xs items.toList → P (.ref a)) : P x := by
  obtain ⟨a, items, m, rfl, ha, hl, hr⟩ := X.listAt e hx
  exact k a items m ha hl hr
@[elab_as_elim] theorem Rel.tupE {hk : Heap} {as : List Addr} {st : St} {L : Fm} {h : Heap} (X : Rel C hk as st L h) {i : Nat} {xs : List AV} (e : st.os.get i = some (.tup xs)) {x : Value} {P : Value → Prop} (hx : RV C as (.ref i) x)
    (k : ∀ a items, as[i]? = some a → h.get? a = some { cls := .type "tuple", dict := none, data := .seq items 0, slots := #[] } → RVs C as xs items.toList → P (.ref a)) : P x := by
  obtain ⟨a, items, rfl, ha, hl, hr⟩ := X.tupAt e hx
  exact k a items ha hl hr
/-- a new list upon the heap -/
theorem Rel.pushList {hk : Heap} {as : List Addr} {st : St} {L : Fm} {h : Heap} (X : Rel C hk as st L h) {xs : List AV} {v : AV} {os' : Store} (e : st.os.new (.list xs) = some (v, os')) {items : Array Value} (r : RVs C as xs items.toList) :
    Rel C hk (as ++ [h.objs.size]) ⟨st.loc, os'⟩ L (h.push { cls := .type "list", data := .seq items }) ∧ RV C (as ++ [h.objs.size]) v (.ref h.objs.size) :=
  X.new e (fun _ _ q => Heap.get?_push_of_some _ q) (by
    cases q : h.get? h.objs.size with
    | none => rfl
    | some o => exact absurd (Heap.lt_size q) (Nat.lt_irrefl _)) (Heap.get?_push_size _ rfl) ⟨items, 0, Heap.get?_push_size _ rfl, r.mono ⟨_, rfl⟩⟩ rfl
theorem Rel.pushTup {hk : Heap} {as : List Addr} {st : St} {L : Fm} {h : Heap} (X : Rel C hk as st L h) {xs : List AV} {v : AV} {os' : Store} (e : st.os.new (.tup xs) = some (v, os')) {items : Array Value} (r : RVs C as xs items.toList) :
    Rel C hk (as ++ [h.objs.size]) ⟨st.loc, os'⟩ L (h.push { cls := .type "tuple", data := .seq items }) ∧ RV C (as ++ [h.objs.size]) v (.ref h.objs.size) :=
  X.new e (fun _ _ q => Heap.get?_push_of_some _ q) (by
    cases q : h.get? h.objs.size with
    | none => rfl
    | some o => exact absurd (Heap.lt_size q) (Nat.lt_irrefl _)) (Heap.get?_push_size _ rfl) ⟨items, Heap.get?_push_size _ rfl, r.mono ⟨_, rfl⟩⟩ rfl
theorem pre1 {as : List Addr} {a : Addr} : as <+: as ++ [a] := ⟨[a], rfl⟩
theorem add_lens {a b c d : Nat} (h : Nat.ble (a + b) 2000 = true) (h1 : c = a) (h2 : d = b) : c + d ≤ sizeLine := by
  subst h1 h2
  exact Nat.le_of_lt (two_line h)
theorem opAdd_ok : OpOk C (binaryOp .Add) opAdd := by
  intro A E s hk as st L a b v x y os' Q hh hu e X hx hy K
  refine alt_elim e (fun e => onRef_elim e fun i hi e => onRef_elim e fun j hj e => onList_elim e fun xs q1 e => onList_elim e fun ys q2 e => bT_elim e fun q3 z => ?_) fun e => o1_elim e fun u q z => ?_
  · subst hi hj
    refine X.listE q1 hx fun a items m ha hl hr => X.listE q2 hy fun a2 items2 m2 ha2 hl2 hr2 => ?_
    refine P.add_list hl hl2 ?_ (add_lens q3 hr.length hr2.length)
    have X' := X.pushList z (items := items ++ items2) (by rw [Array.toList_append]; exact hr.append hr2)
    exact K _ _ s.toks _ pre1 X'.1 X'.2
  · exact pAdd_ok q hx hy fun tk val hv => kRet z K as s.heap tk val (List.prefix_refl _) X hv
theorem RefE.add {l r : Expr} {pos : Pos} {f g} (hf : RefE C n sc l f) (hg : RefE C n sc r g) : RefE C n sc (.BinOp l .Add r pos) (cBin opAdd f g) := RefE.bin opAdd_ok hf hg
noncomputable def opP (p : AV → AV → Option AV) (a b : AV) (os : Store) : Option (AV × Store) := o1 (p a b) fun v => some (v, os)
theorem RefE.band {l r : Expr} {pos : Pos} {f g} (hf : RefE C n sc l f) (hg : RefE C n sc r g) : RefE C n sc (.BinOp l .BitAnd r pos) (cBin (opP pAnd) f g) := by
  refine RefE.bin (OpOk.pure ?_) hf hg
  intro A E s as a b v x y Q hh hu e hx hy K
  refine onInt_elim e fun i hi e => onNat_elim e fun m hm e => onInt_elim e fun j hj e => onNat_elim e fun k hk z => ?_
  subst hi hm hj hk
  exact rvInt hx fun t => rvInt hy fun u => PyProof.Rows.and_int (kRetP z K _ _ ⟨_, rfl⟩)
theorem pow_le {j : Nat} (h : j ≤ 100) : ((j : Nat) : Int) ≤ 1000000 := by omega
theorem RefE.pow {l r : Expr} {pos : Pos} {f g} (hf : RefE C n sc l f) (hg : RefE C n sc r g) : RefE C n sc (.BinOp l .Pow r pos) (cBin (opP pPow) f g) := by
  refine RefE.bin (OpOk.pure ?_) hf hg
  intro A E s as a b v x y Q hh hu e hx hy K
  refine onInt_elim e fun i hi e => onNat_elim e fun m hm e => onInt_elim e fun j hj e => onNat_elim e fun k hk e => bT_elim e fun q1 e => bT_elim e fun q2 z => ?_
  subst hi hm hj hk
  refine rvInt hx fun t => rvInt hy fun u => ?_
  exact PyProof.Rows.pow_int_small (Int.natCast_nonneg _) (pow_le (ble_iff.mp q1)) (Nat.lt_of_le_of_lt (ble_iff.mp q2) (by decide)) (kRetP z K _ _ ⟨s.toks, congrArg (fun z => Value.int z s.toks) (Int.natCast_pow m k)⟩)
/-! comparisons -/
noncomputable def CmpOk (C : Cx) (t : Value → Value → Sem Value) (op : AV → AV → Store → Option Bool) : Prop :=
  ∀ ⦃A : Around⦄ ⦃E : Value → Shared → Prop⦄ ⦃s : Shared⦄ ⦃hk : Heap⦄ ⦃as : List Addr⦄ ⦃st : St⦄ ⦃L : Fm⦄ ⦃a b : AV⦄ ⦃v : Bool⦄ ⦃x y : Value⦄ ⦃Q : Value → Shared → Prop⦄,
    A.handled = none → A.units + 200 < cLine → op a b st.os = some v → Rel C hk as st L s.heap → RV C as a x → RV C as b y →
    (∀ h' tk, Rel C hk as st L h' → Q (.bool v) { s with heap := h', toks := tk }) → wpAny (model prog C.w) A (t x y) Q E s
theorem kRetTB {hk : Heap} {L : Fm} {Q : Bool → Shared → Prop} {s : Shared} {as : List Addr} {a v : Bool} {b st' : St} (e : some (a, b) = some (v, st'))
    (K : ∀ as' h' tk val, as <+: as' → Rel C hk as' st' L h' → val = v → Q val { s with heap := h', toks := tk }) :
    ∀ as' h' tk val, as <+: as' → Rel C hk as' b L h' → val = a → Q val { s with heap := h', toks := tk } := by cases e; exact K
noncomputable def cCmp (op : AV → AV → Store → Option Bool) (f g : St → Option (AV × St)) : St → Option (Bool × St) := fun s => ob (f s) fun a s1 => ob (g s1) fun b s2 => o1 (op a b s2.os) fun v => some (v, s2)
theorem RefB.cmp {l r : Expr} {cop : CmpOp} {pos : Pos} {op} {f g} (hop : CmpOk C (compareOp cop) op) (hf : RefE C n sc l f) (hg : RefE C n sc r g) (hm : behindInMarks cop r = false) : RefB C n sc (.Compare l [cop] [r] pos) (cCmp op f g) := by
  intro A env E s hk as st st' v Q R F e X K
  refine ob_elim e fun a s1 q1 e => ob_elim e fun b s2 q2 e => o1_elim e fun u q3 z => ?_
  refine wpAny_isTrue_Compare1 (hf R F q1 X fun as1 h1 t1 x p1 X1 hx => hg R F q2 X1 fun as2 h2 t2 y p2 X2 hy => ?_) hm
  exact hop R.handled R.u200 q3 X2 (hx.mono p2) hy fun h3 t3 X3 => wpAny_truthy_bool (kRetTB z K as2 h3 t3 _ (p1.trans p2) X3 rfl)
noncomputable def cEB (f : St → Option (Bool × St)) : St → Option (AV × St) := fun s => ob (f s) fun b s1 => some (.bool b, s1)
theorem RefE.cmp {l r : Expr} {cop : CmpOp} {pos : Pos} {op} {f g} (hop : CmpOk C (compareOp cop) op) (hf : RefE C n sc l f) (hg : RefE C n sc r g) (hm : behindInMarks cop r = false) : RefE C n sc (.Compare l [cop] [r] pos) (cEB (cCmp op f g)) := by
  intro A env E s hk as st st' v Q R F e X K
  refine ob_elim e fun b0 s0 q0 z => ob_elim q0 fun a s1 q1 e => ob_elim e fun b s2 q2 e => o1_elim e fun u q3 z2 => ?_
  cases z2
  refine wpAny_Compare1 (hf R F q1 X fun as1 h1 t1 x p1 X1 hx => hg R F q2 X1 fun as2 h2 t2 y p2 X2 hy => ?_) hm
  exact hop R.handled R.u200 q3 X2 (hx.mono p2) hy fun h3 t3 X3 => kRetT z K as2 h3 t3 _ (p1.trans p2) X3 rfl
noncomputable def leB (a b : Int) : Bool := decide (a ≤ b)
noncomputable def eqL : List Nat → List Nat → Bool
  | [], [] => true
  | a :: l, b :: r => match Nat.beq a b with
    | true => eqL l r
    | false => false
  | _, _ => false
theorem eqL_eq (a : List Nat) : ∀ b, eqL a b = decide (a = b) := by
  induction a with
  | nil => intro b; cases b with
    | nil => rfl
    | cons _ _ => simp [eqL]
  | cons a l ih => intro b; cases b with
    | nil => simp [eqL]
    | cons b r =>
      rw [eqL, Tr.beq_eq]
      by_cases h : a = b
      · simp [h, ih r]
      · simp [h]
noncomputable def eqI (a b : Int) : Bool := match a, b with
  | .ofNat m, .ofNat n => Nat.beq m n
  | .negSucc m, .negSucc n => Nat.beq m n
  | _, _ => false
theorem eqI_eq (a b : Int) : eqI a b = (a == b) := by
  cases a <;> cases b <;> simp only [eqI, Tr.beq_eq] <;> rw [Bool.eq_iff_iff] <;> simp <;> omega
noncomputable def pEq (a b : AV) : Option Bool := alt (onInt a fun i => onInt b fun j => some (eqI i j)) (onStr a fun x => onStr b fun y => some (eqL x y))
noncomputable def oEq (a b : AV) (_ : Store) : Option Bool := pEq a b
theorem eqL_str (i j : List Nat) : ((⟨i.toArray⟩ : Str).cps.toList == (⟨j.toArray⟩ : Str).cps.toList) = eqL i j := by rw [eqL_eq, Bool.eq_iff_iff]; simp
theorem oEq_ok : CmpOk C (compareOp .Eq) oEq := by
  intro A E s hk as st L a b v x y Q hh hu e X hx hy K
  refine alt_elim e (fun e => onInt_elim e fun i hi e => onInt_elim e fun j hj z => ?_) fun e => onStr_elim e fun i hi e => onStr_elim e fun j hj z => ?_
  · subst hi hj
    exact rvInt hx fun t => rvInt hy fun u => PyProof.Rows.eq_int (eqI_eq i j ▸ kRetB z K s.heap s.toks X)
  · subst hi hj
    exact rvStr hx fun t => rvStr hy fun u => P.eq_str (eqL_str i j ▸ kRetB z K s.heap s.toks X)
noncomputable def oLt (a b : AV) (_ : Store) : Option Bool := onInt a fun i => onInt b fun j => some (Z.ltB i j)
theorem ltB_dec (i j : Int) : Z.ltB i j = decide (i < j) := by rw [Bool.eq_iff_iff, Z.ltB_iff]; simp
theorem leB_dec (i j : Int) : Z.leB i j = decide (i ≤ j) := by rw [Bool.eq_iff_iff, Z.leB_iff]; simp
theorem oLt_ok : CmpOk C (compareOp .Lt) oLt := by
  intro A E s hk as st L a b v x y Q hh hu e X hx hy K
  refine onInt_elim e fun i hi e => onInt_elim e fun j hj z => ?_
  subst hi hj
  exact rvInt hx fun t => rvInt hy fun u => PyProof.Rows.lt_int (ltB_dec i j ▸ kRetB z K s.heap s.toks X)
noncomputable def oGe (a b : AV) (_ : Store) : Option Bool := onInt a fun i => onInt b fun j => some (Z.leB j i)
theorem oGe_ok : CmpOk C (compareOp .GtE) oGe := by
  intro A E s hk as st L a b v x y Q hh hu e X hx hy K
  refine onInt_elim e fun i hi e => onInt_elim e fun j hj z => ?_
  subst hi hj
  exact rvInt hx fun t => rvInt hy fun u => PyProof.Rows.ge_int (leB_dec j i ▸ kRetB z K s.heap s.toks X)
/-! truth -/
noncomputable def trI (i : Int) : Bool := match i with
  | .ofNat 0 => false
  | _ => true
noncomputable def neL (xs : List AV) : Bool := match xs with
  | [] => false
  | _ => true
noncomputable def oTr (a : AV) (os : Store) : Option Bool := alt (onInt a fun i => some (trI i)) (alt (onBool a fun b => some b) (alt (onNone a <| some false) (onRef a fun i => onList (os.get i) fun xs => bT (Nat.ble xs.length 2000) <| some (neL xs))))
noncomputable def TruOk (C : Cx) (op : AV → Store → Option Bool) : Prop :=
  ∀ ⦃A : Around⦄ ⦃E : Value → Shared → Prop⦄ ⦃s : Shared⦄ ⦃hk : Heap⦄ ⦃as : List Addr⦄ ⦃st : St⦄ ⦃L : Fm⦄ ⦃a : AV⦄ ⦃v : Bool⦄ ⦃x : Value⦄ ⦃Q : Bool → Shared → Prop⦄,
    A.handled = none → A.units + 200 < cLine → op a st.os = some v → Rel C hk as st L s.heap → RV C as a x →
    (∀ h' tk, Rel C hk as st L h' → Q v { s with heap := h', toks := tk }) → wpAny (model prog C.w) A (truthy x) Q E s
theorem trI_eq (i : Int) : (i != 0) = trI i := by
  cases i with
  | ofNat m => cases m <;> rfl
  | negSucc m => rfl
theorem neL_eq {xs : List AV} {n : Nat} (h : n = xs.length) : (!(n == 0)) = neL xs := by
  subst h
  cases xs <;> rfl
theorem kRetTr {hk : Heap} {L : Fm} {Q : Bool → Shared → Prop} {s : Shared} {as : List Addr} {a v : Bool} {st : St} (e : some a = some v)
    (K : ∀ h' tk, Rel C hk as st L h' → Q v { s with heap := h', toks := tk }) : ∀ h' tk, Rel C hk as st L h' → Q a { s with heap := h', toks := tk } := by cases e; exact K
theorem len_63 {m n : Nat} (q : Nat.ble n 2000 = true) (h : m = n) : (m : Int) < 2 ^ 63 := by
  have := ble_iff.mp q
  omega
theorem oTr_ok : TruOk C oTr := by
  intro A E s hk as st L a v x Q hh hu e X hx K
  refine alt_elim e (fun e => onInt_elim e fun i hi z => ?_) fun e => alt_elim e (fun e => onBool_elim e fun b hb z => ?_) fun e => alt_elim e (fun e => onNone_elim e fun hn z => ?_) fun e => onRef_elim e fun i hi e => onList_elim e fun xs q e => bT_elim e fun q2 z => ?_
  · subst hi
    exact rvInt hx fun t => P.truthy_int (trI_eq i ▸ kRetTr z K s.heap s.toks X)
  · subst hb
    rw [show x = .bool b from hx]
    exact wpAny_truthy_bool (kRetTr z K s.heap s.toks X)
  · subst hn
    exact rvNone hx (truthy_none (kRetTr z K s.heap s.toks X))
  · subst hi
    refine X.listE q hx fun a items m ha hl hr => ?_
    refine wpAny_truthy_list hl.isList (len_63 q2 hr.length) ?_
    rw [show (!items.isEmpty) = neL xs from neL_eq (n := items.size) hr.length]
    exact kRetTr z K s.heap (s.toks + 1 + 1) X
noncomputable def cTr (f : St → Option (AV × St)) : St → Option (Bool × St) := fun s => ob (f s) fun a s1 => o1 (oTr a s1.os) fun b => some (b, s1)
theorem RefB.val {e : Expr} {f} (hf : RefE C n sc e f) (he : ∀ env whole, isTrue e env whole = (do let v ← whole; standAt e.pos; holding [v] (truthy v)) := by intro _ _; rfl) : RefB C n sc e (cTr f) := by
  intro A env E s hk as st st' v Q R F e' X K
  refine ob_elim e' fun a s1 q1 e => o1_elim e fun b q2 z => ?_
  exact wpAny_isTrue_value (hf R F q1 X fun as1 h1 t1 x p1 X1 hx => oTr_ok R.handled R.u200 q2 X1 hx fun h2 t2 X2 => kRetTB z K as1 h2 t2 _ p1 X2 rfl) (he _ _)
noncomputable def cNotB (f : St → Option (Bool × St)) : St → Option (Bool × St) := fun s => ob (f s) fun b s1 => some (!b, s1)
theorem RefB.not {e : Expr} {pos : Pos} {f} (hf : RefB C n sc e f) : RefB C n sc (.UnaryOp .Not e pos) (cNotB f) := by
  intro A env E s hk as st st' v Q R F e' X K
  refine ob_elim e' fun b s1 q1 z => ?_
  exact wpAny_isTrue_Not (hf R F q1 X fun as1 h1 t1 x p1 X1 hx => kRetTB z K as1 h1 t1 _ p1 X1 (congrArg (!·) hx))
noncomputable def cAndB (f g : St → Option (Bool × St)) : St → Option (Bool × St) := fun s => ob (f s) fun b s1 => bIf b (g s1) (some (false, s1))
theorem RefB.and {x y : Expr} {pos : Pos} {f g} (hf : RefB C n sc x f) (hg : RefB C n sc y g) : RefB C n sc (.BoolOp .And [x, y] pos) (cAndB f g) := by
  intro A env E s hk as st st' v Q R F e' X K
  refine ob_elim e' fun b s1 q1 e1 => ?_
  refine wpAny_isTrue_BoolOp (wpAny_allTrue_And_cons (hf R F q1 X fun as1 h1 t1 x p1 X1 hx => ?_))
  cases hx
  refine bIf_elim e1 (fun hb z => ?_) fun hb z => ?_
  · subst hb
    refine wpAny_allTrue_And_cons (hg R F z X1 fun as2 h2 t2 y p2 X2 hy => ?_)
    cases y with
    | false => exact K as2 h2 t2 _ (p1.trans p2) X2 hy
    | true => exact wpAny_allTrue_And_nil (K as2 h2 t2 _ (p1.trans p2) X2 hy)
  · subst hb
    exact kRetTB z K as1 h1 t1 _ p1 X1 rfl
noncomputable def cOrB (f g : St → Option (Bool × St)) : St → Option (Bool × St) := fun s => ob (f s) fun b s1 => bIf b (some (true, s1)) (g s1)
theorem RefB.or {x y : Expr} {pos : Pos} {f g} (hf : RefB C n sc x f) (hg : RefB C n sc y g) : RefB C n sc (.BoolOp .Or [x, y] pos) (cOrB f g) := by
  intro A env E s hk as st st' v Q R F e' X K
  refine ob_elim e' fun b s1 q1 e1 => ?_
  refine wpAny_isTrue_BoolOp (wpAny_allTrue_Or_cons (hf R F q1 X fun as1 h1 t1 x p1 X1 hx => ?_))
  cases hx
  refine bIf_elim e1 (fun hb z => ?_) fun hb z => ?_
  · subst hb
    exact kRetTB z K as1 h1 t1 _ p1 X1 rfl
  · subst hb
    refine wpAny_allTrue_Or_cons (hg R F z X1 fun as2 h2 t2 y p2 X2 hy => ?_)
    cases y with
    | true => exact K as2 h2 t2 _ (p1.trans p2) X2 hy
    | false => exact wpAny_allTrue_Or_nil (K as2 h2 t2 _ (p1.trans p2) X2 hy)
noncomputable def cIfE (t : St → Option (Bool × St)) (f g : St → Option (AV × St)) : St → Option (AV × St) := fun s => ob (t s) fun b s1 => bIf b (f s1) (g s1)
theorem RefE.ite {t x y : Expr} {pos : Pos} {ft f g} (ht : RefB C n sc t ft) (hf : RefE C n sc x f) (hg : RefE C n sc y g) : RefE C n sc (.IfExp t x y pos) (cIfE ft f g) := by
  intro A env E s hk as st st' v Q R F e' X K
  refine ob_elim e' fun b s1 q1 e1 => ?_
  refine wpAny_IfExp (ht R F q1 X fun as1 h1 t1 x p1 X1 hx => ?_)
  cases hx
  refine bIf_elim e1 (fun hb z => ?_) fun hb z => ?_
  · subst hb
    exact hf R F z X1 fun as2 h2 t2 y p2 X2 hy => K as2 h2 t2 _ (p1.trans p2) X2 hy
  · subst hb
    exact hg R F z X1 fun as2 h2 t2 y p2 X2 hy => K as2 h2 t2 _ (p1.trans p2) X2 hy
noncomputable def cNeg (f : St → Option (AV × St)) : St → Option (AV × St) := fun s => ob (f s) fun a s1 => onInt a fun i => some (.int (-i), s1)
theorem RefE.neg {x : Expr} {pos : Pos} {f} (hf : RefE C n sc x f) : RefE C n sc (.UnaryOp .USub x pos) (cNeg f) := by
  intro A env E s hk as st st' v Q R F e' X K
  refine ob_elim e' fun a s1 q1 e => onInt_elim e fun i hi z => ?_
  subst hi
  exact wpAny_UnaryOp (hf R F q1 X fun as1 h1 t1 x p1 X1 hx => rvInt hx fun t => P.neg_int (kRetT z K as1 h1 _ _ p1 X1 ⟨_, rfl⟩))
end
end Mine
end
end
section
set_option maxRecDepth 100000
set_option linter.unusedVariables false
set_option autoImplicit false
set_option genSizeOf false
set_option genInjectivity false
noncomputable section
namespace Mine
open PySem PySem.W PyProof.Rows
section
variable {C : Cx} {n : Nat} {sc : Sc}
/-! displays -/
noncomputable def cSeq (fs : List (St → Option (AV × St))) : St → Option (List AV × St) := List.rec (motive := fun _ => St → Option (List AV × St)) (fun s => some ([], s))
  (fun f _ ih s => ob (f s) fun a s1 => ob (ih s1) fun vs s2 => some (a :: vs, s2)) fs
noncomputable abbrev RefL (C : Cx) (n : Nat) (sc : Sc) (es : List Expr) (f : St → Option (List AV × St)) : Prop := ∀ pos, RefT C n sc (fun env => spliced (backTo pos (starEach es env))) (RVs C) f
theorem RefL.nil : RefL C n sc [] (cSeq []) := by
  intro pos A env E s hk as st st' v Q R F e X K
  cases e
  exact wpAny_items_nil (K as s.heap s.toks [] (List.prefix_refl _) X rfl)
theorem RefL.cons {e : Expr} {es : List Expr} {f fs} (hf : RefE C n sc e f) (hs : RefL C n sc es (cSeq fs)) (he : ∀ env, starEach (e :: es) env = (false, eval e env) :: starEach es env := by intro _; rfl) : RefL C n sc (e :: es) (cSeq (f :: fs)) := by
  intro pos A env E s hk as st st' v Q R F e X K
  refine ob_elim e fun a s1 q1 e => ob_elim e fun vs s2 q2 z => ?_
  exact wpAny_items_cons (hf R F q1 X fun as1 h1 t1 x p1 X1 hx => hs pos R F q2 X1 fun as2 h2 t2 xs p2 X2 hxs => kRetT z K as2 h2 t2 _ (p1.trans p2) X2 ⟨x, xs, rfl, hx.mono p2, hxs⟩) (he env)
noncomputable def newO (mk : List AV → AO) (r : Option (List AV × St)) : Option (AV × St) := ob r fun vs s1 => bT (Nat.ble vs.length 2000) <| ob (s1.os.new (mk vs)) fun v o => some (v, ⟨s1.loc, o⟩)
noncomputable def cList (fs : List (St → Option (AV × St))) : St → Option (AV × St) := fun s => newO .list (cSeq fs s)
noncomputable def cTup (fs : List (St → Option (AV × St))) : St → Option (AV × St) := fun s => newO .tup (cSeq fs s)
theorem len_e {m n : Nat} (h : Nat.ble n 2000 = true) (q : m = n) : m ≤ sizeLine := by
  have := ble_iff.mp h
  rw [line_is]; omega
theorem RefE.list {es : List Expr} {pos : Pos} {fs} (hs : RefL C n sc es (cSeq fs)) : RefE C n sc (.List es pos) (cList fs) := by
  intro A env E s hk as st st' v Q R F e X K
  refine ob_elim e fun vs s1 q1 e => bT_elim e fun hl e => ob_elim e fun w o q2 z => ?_
  refine wpAny_List (hs pos R F q1 X fun as1 h1 t1 xs p1 X1 hx => ⟨len_e hl hx.length, ?_⟩)
  have X' := X1.pushList q2 (items := xs.toArray) (by simpa using hx)
  exact kRetT z K _ _ t1 _ (p1.trans pre1) X'.1 X'.2
theorem RefE.tup {es : List Expr} {k : Nat} {pos : Pos} {fs} (hs : RefL C n sc es (cSeq fs)) : RefE C n sc (.Tuple es k pos) (cTup fs) := by
  intro A env E s hk as st st' v Q R F e X K
  refine ob_elim e fun vs s1 q1 e => bT_elim e fun hl e => ob_elim e fun w o q2 z => ?_
  refine wpAny_Tuple (hs pos R F q1 X fun as1 h1 t1 xs p1 X1 hx => ⟨len_e hl hx.length, ?_⟩)
  have X' := X1.pushTup q2 (items := xs.toArray) (by simpa using hx)
  exact kRetT z K _ _ t1 _ (p1.trans pre1) X'.1 X'.2
/-! dicts -/
noncomputable def dGet {κ : Type} (eqb : κ → κ → Bool) (es : List (κ × AV)) (k : κ) : Option AV := List.rec (motive := fun _ => Option AV) none
  (fun p _ ih => Prod.rec (fun j v => Bool.rec ih (some v) (eqb j k)) p) es
theorem dGet_cons {κ : Type} (eqb : κ → κ → Bool) (j k : κ) (v : AV) (r : List (κ × AV)) : dGet eqb ((j, v) :: r) k = match eqb j k with
    | true => some v
    | false => dGet eqb r k := by
  show Bool.rec (motive := fun _ => Option AV) (dGet eqb r k) (some v) (eqb j k) = _
  cases eqb j k <;> rfl
noncomputable def dSet {κ : Type} (eqb : κ → κ → Bool) (es : List (κ × AV)) (k : κ) (v : AV) : List (κ × AV) := List.rec (motive := fun _ => List (κ × AV)) [(k, v)]
  (fun p r ih => Prod.rec (fun j u => Bool.rec ((j, u) :: ih) ((j, v) :: r) (eqb j k)) p) es
theorem dSet_cons {κ : Type} (eqb : κ → κ → Bool) (j k : κ) (u v : AV) (r : List (κ × AV)) : dSet eqb ((j, u) :: r) k v = match eqb j k with
    | true => (j, v) :: r
    | false => (j, u) :: dSet eqb r k v := by
  show Bool.rec (motive := fun _ => List (κ × AV)) ((j, u) :: dSet eqb r k v) ((j, v) :: r) (eqb j k) = _
  cases eqb j k <;> rfl
structure KvOk {κ K : Type} (C : Cx) (as : List Addr) (emb : κ → K) (es : List (κ × AV)) (kvs : List (K × Value)) : Prop where
  keys : kvs.map (·.1) = es.map (fun e => emb e.1)
  vals : RVs C as (es.map (·.2)) (kvs.map (·.2))
section
variable {κ K : Type} [DecidableEq K] {as : List Addr} {emb : κ → K} {eqb : κ → κ → Bool} (hq : ∀ a b, eqb a b = decide (emb a = emb b))
include hq
omit hq in
theorem KvOk.split {j : κ} {u : AV} {r : List (κ × AV)} {kvs : List (K × Value)} {P : List (K × Value) → Prop} (h : KvOk C as emb ((j, u) :: r) kvs) (k : ∀ z t, RV C as u z → KvOk C as emb r t → P ((emb j, z) :: t)) : P kvs := by
  cases kvs with
  | nil => have := h.keys; simp at this
  | cons p t =>
    obtain ⟨y, z⟩ := p
    have hk := h.keys
    simp only [List.map_cons, List.cons.injEq] at hk
    obtain ⟨val, rest, e2, h1, h2⟩ := h.vals
    simp only [List.map_cons, List.cons.injEq] at e2
    rw [hk.1]
    exact k z t (e2.1 ▸ h1) ⟨hk.2, by rw [e2.2]; exact h2⟩
omit hq in
theorem KvOk.nil_of {kvs : List (K × Value)} (h : KvOk C as emb [] kvs) : kvs = [] := by simpa using h.keys
omit hq in
theorem valueAt_cons (y : K) (z : Value) (t : List (K × Value)) (k : K) : valueAt ((y, z) :: t) k = if y = k then some z else valueAt t k := by
  unfold valueAt
  rw [List.find?_cons]
  by_cases q : y = k <;> simp [q]
theorem dGet_step (j k : κ) (v : AV) (r : List (κ × AV)) : dGet eqb ((j, v) :: r) k = if emb j = emb k then some v else dGet eqb r k := by
  rw [dGet_cons, hq]
  by_cases q : emb j = emb k <;> simp [q]
theorem dGet_some {es : List (κ × AV)} : ∀ {kvs : List (K × Value)}, KvOk C as emb es kvs → ∀ {k : κ} {v : AV}, dGet eqb es k = some v → ∃ val, valueAt kvs (emb k) = some val ∧ RV C as v val := by
  induction es with
  | nil => intro _ _ _ _ e; cases e
  | cons p r ih =>
    intro kvs h k v e
    rw [show p = (p.1, p.2) from rfl, dGet_step hq] at e
    refine KvOk.split (j := p.1) (u := p.2) (P := fun kvs => ∃ val, valueAt kvs (emb k) = some val ∧ RV C as v val) h fun z t hz ht => ?_
    rw [valueAt_cons]
    by_cases q : emb p.1 = emb k
    · rw [if_pos q] at e ⊢
      exact ⟨z, rfl, Option.some.inj e ▸ hz⟩
    · rw [if_neg q] at e ⊢
      exact ih ht e
theorem dGet_none {es : List (κ × AV)} : ∀ {kvs : List (K × Value)}, KvOk C as emb es kvs → ∀ {k : κ}, dGet eqb es k = none → valueAt kvs (emb k) = none := by
  induction es with
  | nil => intro kvs h _ _; rw [h.nil_of]; rfl
  | cons p r ih =>
    intro kvs h k e
    rw [show p = (p.1, p.2) from rfl, dGet_step hq] at e
    refine KvOk.split (j := p.1) (u := p.2) (P := fun kvs => valueAt kvs (emb k) = none) h fun z t hz ht => ?_
    rw [valueAt_cons]
    by_cases q : emb p.1 = emb k
    · rw [if_pos q] at e; cases e
    · rw [if_neg q] at e ⊢
      exact ih ht e
theorem stored_cons_eq (y : K) (z : Value) (t : List (K × Value)) (v : Value) (hn : y ∉ t.map (·.1)) : stored ((y, z) :: t) y v = (y, v) :: t := by
  unfold stored
  rw [if_pos (by simp)]
  simp only [List.map_cons, if_true]
  rw [map_store_of_not_mem t y v hn]
theorem stored_cons_ne (y : K) (z : Value) (t : List (K × Value)) (k : K) (v : Value) (hn : y ≠ k) : stored ((y, z) :: t) k v = (y, z) :: stored t k v := by
  unfold stored
  simp only [List.any_cons, hn, decide_false, Bool.false_or]
  split
  · simp [hn]
  · rfl
theorem dSet_ok {es : List (κ × AV)} : ∀ {kvs : List (K × Value)}, KvOk C as emb es kvs → (kvs.map (·.1)).Nodup → ∀ (k : κ) {v : AV} {val : Value}, RV C as v val → KvOk C as emb (dSet eqb es k v) (stored kvs (emb k) val) := by
  induction es with
  | nil =>
    intro kvs h _ k v val hv
    cases h.nil_of
    exact ⟨rfl, val, [], rfl, hv, rfl⟩
  | cons p r ih =>
    intro kvs h hn k v val hvv
    refine KvOk.split (j := p.1) (u := p.2) (P := fun kvs => (kvs.map (·.1)).Nodup → KvOk C as emb (dSet eqb (p :: r) k v) (stored kvs (emb k) val)) h (fun z t hz ht hn => ?_) hn
    rw [show p = (p.1, p.2) from rfl, dSet_cons, hq]
    simp only [List.map_cons, List.nodup_cons] at hn
    by_cases q : emb p.1 = emb k
    · rw [decide_eq_true q, ← q, stored_cons_eq hq _ z t val hn.1]
      exact ⟨by simp [ht.keys], val, t.map (·.2), rfl, hvv, ht.vals⟩
    · rw [decide_eq_false q, stored_cons_ne hq _ z t _ val q]
      have ih := ih ht hn.2 k hvv
      exact ⟨by simp only [List.map_cons, ih.keys], z, _, rfl, hz, ih.vals⟩
omit hq in
theorem KvOk.length {es : List (κ × AV)} {kvs : List (K × Value)} (h : KvOk C as emb es kvs) : kvs.length = es.length := by
  have := congrArg List.length h.keys
  simpa using this
end
noncomputable def embS (k : List Nat) : Str := ⟨k.toArray⟩
theorem embS_inj {a b : List Nat} : embS a = embS b ↔ a = b := by
  unfold embS
  constructor
  · intro h; simpa using h
  · intro h; rw [h]
theorem eqI_dec (a b : Int) : eqI a b = decide (a = b) := by rw [eqI_eq, Bool.eq_iff_iff]; simp
theorem eqL_dec (a b : List Nat) : eqL a b = decide (embS a = embS b) := by rw [eqL_eq, Bool.eq_iff_iff]; simp [embS_inj]
theorem Rel.dictI {hk : Heap} {as : List Addr} {st : St} {L : Fm} {h : Heap} (X : Rel C hk as st L h) {i ep : Nat} {es : List (Int × AV)} (e : st.os.get i = some (.dictI es ep)) {x : Value} (hx : RV C as (.ref i) x) :
    ∃ a kvs, x = .ref a ∧ as[i]? = some a ∧ h.DictAt (intKind prog C.w) a kvs ep ∧ KvOk C as (fun k : Int => k) es kvs := by
  obtain ⟨a, ha, lo, kvs, hd, hk, hv⟩ := X.S.obj i _ e
  obtain ⟨a', ha', rfl⟩ := hx
  rw [ha] at ha'
  cases ha'
  exact ⟨a, kvs, rfl, ha, hd, hk, hv⟩
theorem Rel.dictS {hk : Heap} {as : List Addr} {st : St} {L : Fm} {h : Heap} (X : Rel C hk as st L h) {i : Nat} {es : List (List Nat × AV)} (e : st.os.get i = some (.dictS es)) {x : Value} (hx : RV C as (.ref i) x) :
    ∃ a kvs, x = .ref a ∧ as[i]? = some a ∧ h.DictOf (strKind prog C.w) a kvs ∧ KvOk C as embS es kvs := by
  obtain ⟨a, ha, lo, kvs, hd, hk, hv⟩ := X.S.obj i _ e
  obtain ⟨a', ha', rfl⟩ := hx
  rw [ha] at ha'
  cases ha'
  exact ⟨a, kvs, rfl, ha, hd, hk, hv⟩
@[elab_as_elim] theorem Rel.dictIE {hk : Heap} {as : List Addr} {st : St} {L : Fm} {h : Heap} (X : Rel C hk as st L h) {i ep : Nat} {es : List (Int × AV)} (e : st.os.get i = some (.dictI es ep)) {x : Value} {P : Value → Prop} (hx : RV C as (.ref i) x)
    (k : ∀ a kvs, as[i]? = some a → h.DictAt (intKind prog C.w) a kvs ep → KvOk C as (fun k : Int => k) es kvs → P (.ref a)) : P x := by
  obtain ⟨a, kvs, rfl, ha, hl, hr⟩ := X.dictI e hx
  exact k a kvs ha hl hr
@[elab_as_elim] theorem Rel.dictSE {hk : Heap} {as : List Addr} {st : St} {L : Fm} {h : Heap} (X : Rel C hk as st L h) {i : Nat} {es : List (List Nat × AV)} (e : st.os.get i = some (.dictS es)) {x : Value} {P : Value → Prop} (hx : RV C as (.ref i) x)
    (k : ∀ a kvs, as[i]? = some a → h.DictOf (strKind prog C.w) a kvs → KvOk C as embS es kvs → P (.ref a)) : P x := by
  obtain ⟨a, kvs, rfl, ha, hl, hr⟩ := X.dictS e hx
  exact k a kvs ha hl hr
theorem Rel.loI {hk : Heap} {as : List Addr} {st : St} {L : Fm} {h : Heap} (X : Rel C hk as st L h) {i ep : Nat} {es : List (Int × AV)} (e : st.os.get i = some (.dictI es ep)) {a : Addr} (ha : as[i]? = some a) : (a == sysModules) = false := by
  obtain ⟨a', ha', lo, _⟩ := X.S.obj i _ e
  rw [ha] at ha'
  cases ha'
  exact lo
theorem Rel.loS {hk : Heap} {as : List Addr} {st : St} {L : Fm} {h : Heap} (X : Rel C hk as st L h) {i : Nat} {es : List (List Nat × AV)} (e : st.os.get i = some (.dictS es)) {a : Addr} (ha : as[i]? = some a) : (a == sysModules) = false := by
  obtain ⟨a', ha', lo, _⟩ := X.S.obj i _ e
  rw [ha] at ha'
  cases ha'
  exact lo
theorem dictNodup {K : Type} [DecidableEq K] {w : World} {knd : KeyKind prog w K} {h : Heap} {a : Addr} {kvs : List (K × Value)} (x : h.DictOf knd a kvs) : (kvs.map (·.1)).Nodup := let ⟨_, d⟩ := x.dictAt; d.nodup
theorem isInt_self (i : Int) (t : Tok) : (intKind prog C.w).is i (.int i t) = true := by
  show Value.isInt i (.int i t) = true
  simp [Value.isInt]
theorem isStr_self (x : Str) (t : Tok) : (strKind prog C.w).is x (.str x t) = true := by
  show Value.isStrOf x (.str x t) = true
  simp [Value.isStrOf]
/-! items -/
noncomputable def nth (l : List AV) : Nat → Option AV := List.rec (motive := fun _ => Nat → Option AV) (fun _ => none)
  (fun a _ ih i => Nat.rec (motive := fun _ => Option AV) (some a) (fun j _ => ih j) i) l
theorem nth_eq (l : List AV) : ∀ i : Nat, nth l i = l[i]? := by
  induction l with
  | nil => intro _; rfl
  | cons a l ih =>
    intro i
    cases i with
    | zero => rfl
    | succ i => exact (ih i).trans (by simp)
noncomputable def nthZ (l : List AV) (i : Int) : Option AV := match i with
  | .ofNat m => nth l m
  | .negSucc m => bT (Nat.ble (m + 1) l.length) (nth l (l.length - (m + 1)))
noncomputable def nthC : List Nat → Nat → Option Nat
  | [], _ => none
  | a :: l, i => match Nat.beq i 0 with
    | true => some a
    | false => nthC l (i - 1)
theorem nthC_eq (l : List Nat) : ∀ i : Nat, nthC l i = l[i]? := by
  induction l with
  | nil => intro _; simp [nthC]
  | cons a l ih =>
    intro i
    cases i with
    | zero => simp [nthC]
    | succ i =>
      rw [nthC, Tr.beq_eq]
      simp [ih i]
noncomputable def nthS (l : List Nat) (i : Int) : Option Nat := match i with
  | .ofNat m => nthC l m
  | .negSucc m => bT (Nat.ble (m + 1) l.length) (nthC l (l.length - (m + 1)))
theorem seqI_pos {n m : Nat} (h : m < n) : seqIndex? (.ofNat m) n = some m := by
  have h1 : ¬ ((m : Int) < 0) := by omega
  show (let j : Int := if (m : Int) < 0 then (m : Int) + (n : Int) else (m : Int); if 0 ≤ j && j < (n : Int) then some j.toNat else none) = some m
  simp only [h1, if_false]
  rw [if_pos (by simp; omega)]
  simp
theorem seqI_neg {n m : Nat} (h : m + 1 ≤ n) : seqIndex? (.negSucc m) n = some (n - (m + 1)) := by
  have hc : Int.negSucc m = -((m : Int) + 1) := by omega
  show (let j : Int := if (Int.negSucc m) < 0 then (Int.negSucc m) + (n : Int) else (Int.negSucc m); if 0 ≤ j && j < (n : Int) then some j.toNat else none) = some (n - (m + 1))
  have h1 : Int.negSucc m < 0 := by omega
  simp only [h1, if_true]
  rw [if_pos (by simp; omega)]
  congr 1
  omega
theorem seqIdx {l : List AV} {i : Int} {v : AV} (e : nthZ l i = some v) : ∃ j, seqIndex? i l.length = some j ∧ l[j]? = some v := by
  cases i with
  | ofNat m =>
    have e' := (nth_eq l m).symm.trans e
    exact ⟨m, seqI_pos (List.getElem?_eq_some_iff.mp e').1, e'⟩
  | negSucc m => exact bT_elim e fun q e => ⟨_, seqI_neg (ble_iff.mp q), (nth_eq l _).symm.trans e⟩
theorem seqIdxS {l : List Nat} {i : Int} {v : Nat} (e : nthS l i = some v) : ∃ j, seqIndex? i l.length = some j ∧ l[j]? = some v := by
  cases i with
  | ofNat m =>
    have e' := (nthC_eq l m).symm.trans e
    exact ⟨m, seqI_pos (List.getElem?_eq_some_iff.mp e').1, e'⟩
  | negSucc m => exact bT_elim e fun q e => ⟨_, seqI_neg (ble_iff.mp q), (nthC_eq l _).symm.trans e⟩
/-- an int small enough for an index -/
noncomputable def smallZ (i : Int) : Bool := match i with
  | .ofNat m => Nat.ble m 10000
  | .negSucc m => Nat.ble m 10000
theorem smallZ_le {i : Int} (h : smallZ i = true) : -10001 ≤ i ∧ i ≤ 10000 := by
  cases i with
  | ofNat m => have := ble_iff.mp h; constructor <;> (show _ ≤ _; try simp) <;> omega
  | negSucc m => have := ble_iff.mp h; constructor <;> omega
noncomputable def oItem (a b : AV) (os : Store) : Option AV := alt
  (onRef a fun j => alt (onInt b fun i => alt (onTup (os.get j) fun xs => bT (smallZ i) (nthZ xs i)) (alt (onDI (os.get j) fun es _ => dGet eqI es i) (onList (os.get j) fun xs => bT (smallZ i) (nthZ xs i))))
    (onStr b fun x => onDS (os.get j) fun es => dGet eqL es x))
  (onStr a fun z => onInt b fun i => bT (smallZ i) (o1 (nthS z i) fun c => some (.str [c])))
noncomputable def cItem (f g : St → Option (AV × St)) : St → Option (AV × St) := fun s => ob (f s) fun a s1 => ob (g s1) fun b s2 => o1 (oItem a b s2.os) fun v => some (v, s2)
noncomputable def oW {α β : Type} (x : Option α) (k : α → Option β) : Option β := match x with
  | some a => k a
  | _ => none
theorem oW_elim {α β : Type} {x : Option α} {k : α → Option β} {r : β} {P : Prop} (e : oW x k = some r) (h : ∀ a, x = some a → k a = some r → P) : P :=
  match x, e, h with
  | some a, e, h => h a rfl e
section
variable {A : Around} {E : Value → Shared → Prop} {s : Shared} {hk : Heap} {as : List Addr} {st : St} {L : Fm} {v : AV} {Q : Value → Shared → Prop} {value slice : Expr}
theorem seq_nat {i : Int} {n k : Nat} (h : seqIndex? i n = some k) (h0 : 0 ≤ i) : k = i.toNat := by
  unfold seqIndex? at h
  rw [if_neg (Int.not_lt.mpr h0)] at h
  dsimp only at h
  split at h
  · exact (Option.some.inj h).symm
  · cases h
theorem seq_neg {i : Int} {n k : Nat} (h : seqIndex? i n = some k) (h0 : i < 0) : k = (i + n).toNat ∧ -(n : Int) ≤ i := by
  unfold seqIndex? at h
  rw [if_pos h0] at h
  dsimp only at h
  split at h
  · rename_i hc
    rw [Bool.and_eq_true, decide_eq_true_eq] at hc
    exact ⟨(Option.some.inj h).symm, by omega⟩
  · cases h
theorem small_lo {i : Int} (h : smallZ i = true) : -2 ^ 63 ≤ i := by have := smallZ_le h; omega
theorem small_hi {i : Int} (h : smallZ i = true) : i < 2 ^ 63 := by have := smallZ_le h; omega
theorem tail_list {j : Nat} {i : Int} {u : Tok} {xs : List AV} {x : Value} (q : st.os.get j = some (.list xs)) (q1 : smallZ i = true) (e : nthZ xs i = some v) (X : Rel C hk as st L s.heap) (hx : RV C as (.ref j) x) (hs : ∀ o i, subscripted slice false o i = operate [o, i] (getItem o i))
    (K : ∀ h' tk val, Rel C hk as st L h' → RV C as v val → Q val { s with heap := h', toks := tk }) : wpAny (model prog C.w) A (subscriptTail value slice x (.int i u)) Q E s := by
  refine viaP fun G kG => ?_
  obtain ⟨l, items, m, rfl, ha, hl, hr⟩ := X.listAt q hx
  obtain ⟨k, hk1, hk2⟩ := seqIdx e
  obtain ⟨val, hv1, hv2⟩ := hr.get hk2
  refine kG (tail_any hl.isList.typeIs slot_list_getitem.lookup ?_ (hs _ _))
  have hget : items[k]? = some val := by rw [← hv1]; simp
  rw [← hr.length, Array.length_toList] at hk1
  by_cases h0 : 0 ≤ i
  · exact wpAny_getItem_list hl.isList h0 (small_hi q1) (seq_nat hk1 h0 ▸ hget) (K s.heap s.toks val X hv2)
  · have h3 := seq_neg hk1 (Int.not_le.mp h0)
    exact wpAny_getItem_list_neg hl.isList (Int.not_le.mp h0) h3.2 (small_lo q1) (h3.1 ▸ hget) (K s.heap s.toks val X hv2)
theorem tail_tup {j : Nat} {i : Int} {u : Tok} {xs : List AV} {x : Value} (q : st.os.get j = some (.tup xs)) (q1 : smallZ i = true) (e : nthZ xs i = some v) (X : Rel C hk as st L s.heap) (hx : RV C as (.ref j) x) (hs : ∀ o i, subscripted slice false o i = operate [o, i] (getItem o i))
    (K : ∀ h' tk val, Rel C hk as st L h' → RV C as v val → Q val { s with heap := h', toks := tk }) : wpAny (model prog C.w) A (subscriptTail value slice x (.int i u)) Q E s := by
  refine viaP fun G kG => ?_
  obtain ⟨l, items, rfl, ha, hl, hr⟩ := X.tupAt q hx
  obtain ⟨k, hk1, hk2⟩ := seqIdx e
  obtain ⟨val, hv1, hv2⟩ := hr.get hk2
  have hT : IsTup s.heap l items := ⟨_, hl, rfl, 0, rfl⟩
  refine kG (tail_any hT.typeIs slot_tuple_getitem.lookup ?_ (hs _ _))
  rw [← hr.length, Array.length_toList] at hk1
  exact PyProof.Rows.getItem_tuple hT (small_lo q1) (small_hi q1) hk1 (by rw [← hv1]; simp) (K s.heap s.toks val X hv2)
end
theorem tail_item {A : Around} {E : Value → Shared → Prop} {s : Shared} {hk : Heap} {as : List Addr} {st : St} {L : Fm} {a b v : AV} {x y : Value} {Q : Value → Shared → Prop} {value slice : Expr}
    (e : oItem a b st.os = some v) (X : Rel C hk as st L s.heap) (hx : RV C as a x) (hy : RV C as b y) (hs : ∀ o i, subscripted slice false o i = operate [o, i] (getItem o i))
    (K : ∀ h' tk val, Rel C hk as st L h' → RV C as v val → Q val { s with heap := h', toks := tk }) : wpAny (model prog C.w) A (subscriptTail value slice x y) Q E s := by
  refine alt_elim e (fun e => onRef_elim e fun j hj e => alt_elim e (fun e => onInt_elim e fun i hi e => alt_elim e (fun e => onTup_elim e fun xs q e => bT_elim e fun q1 z => ?_) fun e => alt_elim e (fun e => onDI_elim e fun es ep q z => ?_) fun e => onList_elim e fun xs q e => bT_elim e fun q1 z => ?_)
    fun e => onStr_elim e fun i hi e => onDS_elim e fun es q z => ?_) fun e => onStr_elim e fun z hz e => onInt_elim e fun i hi e => bT_elim e fun q1 e => o1_elim e fun c q2 w => ?_
  · subst hj hi
    exact rvInt hy fun t => tail_tup q q1 z X hx hs K
  · subst hj hi
    refine rvInt hy fun t => X.dictIE q hx fun l kvs ha hd hkv => ?_
    obtain ⟨val, hv1, hv2⟩ := dGet_some eqI_dec hkv z
    exact tail_any hd.dictOf.typeIs slot_dict_getitem.lookup (wpAny_getItem_of (isInt_self i t) hd.dictOf.mapOf hv1 (K s.heap _ val X hv2)) (hs _ _)
  · subst hj hi
    exact rvInt hy fun t => tail_list q q1 z X hx hs K
  · subst hj hi
    refine rvStr hy fun t => X.dictSE q hx fun l kvs ha hd hkv => ?_
    obtain ⟨val, hv1, hv2⟩ := dGet_some eqL_dec hkv z
    exact tail_any hd.typeIs slot_dict_getitem.lookup (wpAny_getItem_of (isStr_self _ t) hd.mapOf hv1 (K s.heap _ val X hv2)) (hs _ _)
  · subst hz hi
    cases w
    refine rvStr hx fun t => rvInt hy fun u => ?_
    obtain ⟨k, hk1, hk2⟩ := seqIdxS q2
    have hsm := smallZ_le q1
    refine tail_any (typeIs_str s _ t) F.slot_str_getitem.lookup ?_ (hs _ _)
    refine P.getItem_str (c := c) (by simp; omega) ?_ (K s.heap _ _ X ⟨_, rfl⟩)
    show (seqIndex? i (⟨z.toArray⟩ : Str).cps.size).bind _ = _
    simp only [List.size_toArray]
    rw [hk1]
    simpa using hk2
theorem RefE.item {x i : Expr} {pos : Pos} {f g} (hf : RefE C n sc x f) (hg : RefE C n sc i g) (hs : ∀ o y, subscripted i false o y = operate [o, y] (getItem o y) := by intro _ _; rfl) : RefE C n sc (.Subscript x i pos) (cItem f g) := by
  intro A env E s hk as st st' v Q R F e X K
  refine ob_elim e fun a s1 q1 e => ob_elim e fun b s2 q2 e => o1_elim e fun u q3 z => ?_
  cases z
  refine Subscript_ (hf R F q1 X fun as1 h1 t1 x p1 X1 hx => hg R F q2 X1 fun as2 h2 t2 y p2 X2 hy => ?_)
  exact tail_item q3 X2 (hx.mono p2) hy hs fun h3 t3 val X3 hv => K as2 h3 t3 val (p1.trans p2) X3 hv
end
end Mine
end
end
section
set_option maxRecDepth 100000
set_option linter.unusedVariables false
set_option linter.unusedSectionVars false
set_option autoImplicit false
set_option genSizeOf false
set_option genInjectivity false
noncomputable section
namespace Mine
open PySem PySem.W PyProof.Rows
section
variable {C : Cx} {n : Nat} {sc : Sc}
/-! slices -/
noncomputable abbrev RefO (C : Cx) (n : Nat) (sc : Sc) (x : Option Expr) (f : St → Option (AV × St)) : Prop := RefT C n sc (fun env => evalPart x env) (RV C) f
noncomputable def cNone : St → Option (AV × St) := fun s => some (.none, s)
theorem RefO.none : RefO C n sc none cNone := by
  intro A env E s hk as st st' v Q R F e X K
  cases e
  show wpAny _ _ (evalPart _ env) _ _ _
  rw [evalPart_none]
  exact wpAny_pure (K as s.heap s.toks _ (List.prefix_refl _) X rfl)
theorem RefO.some {x : Expr} {f} (hf : RefE C n sc x f) : RefO C n sc (some x) f := by
  intro A env E s hk as st st' v Q R F e X K
  show wpAny _ _ (evalPart _ env) _ _ _
  rw [evalPart_some]
  exact hf R F e X K
noncomputable def clipN (n : Nat) (i : Int) : Nat := match i with
  | .ofNat m => Nat.min m n
  | .negSucc m => Nat.sub n (m + 1)
theorem clipN_eq (n : Nat) (i : Int) : clipAt n i = clipN n i := by
  cases i with
  | ofNat m => exact clipAt_nat n m
  | negSucc m => exact (clipAt_neg n (m + 1) (by omega))
noncomputable def partOf (a : AV) : Option (Option Int) := alt (onNone a (some none)) (onInt a fun i => some (some i))
theorem partOf_ok {as : List Addr} {a : AV} {p : Option Int} {x : Value} (e : partOf a = some p) (hx : RV C as a x) : IsPart x p :=
  alt_elim e (fun e => onNone_elim e fun h z => by cases z; subst h; exact rvNone hx .none) fun e => onInt_elim e fun i h z => by cases z; subst h; exact rvInt hx fun t => .int _ t
noncomputable def loOf (n : Nat) : Option Int → Nat
  | none => 0
  | some i => clipN n i
noncomputable def hiOf (n : Nat) : Option Int → Nat
  | none => n
  | some i => clipN n i
noncomputable def cutL {α : Type} (xs : List α) (lo hi : Option Int) : List α := (xs.drop (loOf xs.length lo)).take (Nat.sub (hiOf xs.length hi) (loOf xs.length lo))
noncomputable def cSlice (f g h : St → Option (AV × St)) : St → Option (AV × St) := fun s => ob (f s) fun a s1 => ob (g s1) fun lo s2 => ob (h s2) fun hi s3 => o1 (partOf lo) fun l => o1 (partOf hi) fun u =>
  onRef a fun i => onList (s3.os.get i) fun xs => bT (Nat.ble xs.length 2000) <| ob (s3.os.new (.list (cutL xs l u))) fun v o => mkS v s3 o
theorem cut_ok {as : List Addr} {xs : List AV} {items : Array Value} {pl pu : Option Int} (hr : RVs C as xs items.toList) : RVs C as (cutL xs pl pu) (slicePick items pl pu none).toList := by
  have l1 : items.size = xs.length := hr.length
  rw [slicePick_plain]
  unfold cutL
  have e1 : (pl.elim 0 (clipAt items.size)) = loOf xs.length pl := by
    cases pl <;> simp [clipN_eq, l1, loOf]
  have e2 : (pu.elim items.size (clipAt items.size)) = hiOf xs.length pu := by
    cases pu <;> simp [clipN_eq, l1, hiOf]
  rw [e1, e2]
  exact (hr.drop _).take _
theorem len_s {m n : Nat} (h : Nat.ble n 2000 = true) (q : m = n) : m ≤ sizeLine := by
  have := ble_iff.mp h
  rw [line_is]; omega
theorem RefE.slice {x : Expr} {lo hi : Option Expr} {p pos : Pos} {f g h} (hf : RefE C n sc x f) (hg : RefO C n sc lo g) (hh : RefO C n sc hi h) : RefE C n sc (.Subscript x (.Slice lo hi none p) pos) (cSlice f g h) := by
  intro A env E s hk as st st' v Q R F e X K
  refine ob_elim e fun a s1 q1 e => ob_elim e fun l s2 q2 e => ob_elim e fun u s3 q3 e => o1_elim e fun pl ql e => o1_elim e fun pu qu e => onRef_elim e fun i hi e => onList_elim e fun xs qx e => bT_elim e fun qb e => ob_elim e fun w o qn z => ?_
  subst hi
  refine Subscript_ (hf R F q1 X fun as1 h1 t1 x p1 X1 hx => wpAny_Slice (hg R F q2 X1 fun as2 h2 t2 y p2 X2 hy => hh R F q3 X2 fun as3 h3 t3 z3 p3 X3 hz => ?_))
  show wpAny _ _ (evalPart none env) _ _ _
  rw [evalPart_none]
  refine wpAny_pure (X3.listE qx (hx.mono (p2.trans p3)) fun a items m ha hl hr => ?_)
  have X4 := X3.push { cls := .type "slice", data := .fields #[y, z3, .none] }
  refine tail_any (T := "list") (IsL.isList (hl.push _)).typeIs slot_list_getitem.lookup ?_ (ops := [.ref h3.objs.size, .ref a]) rfl
  refine wpAny_getItem_list_slice (hl.push _).isList (Heap.IsSliceOf.new h3 y z3 .none) (partOf_ok ql hy) (partOf_ok qu hz) .none (by simp) ?_ (len_s qb hr.length)
  have X5 := X4.pushList qn (items := slicePick items pl pu none) (cut_ok hr)
  exact kRetT z K _ _ _ _ ((p1.trans (p2.trans p3)).trans pre1) X5.1 X5.2
/-- xs[::-1] -/
noncomputable def cRev (f : St → Option (AV × St)) : St → Option (AV × St) := fun s => ob (f s) fun a s1 => onRef a fun i => onList (s1.os.get i) fun xs => bT (Nat.ble xs.length 2000) <| ob (s1.os.new (.list xs.reverse)) fun v o => mkS v s1 o
theorem RefE.rev {x : Expr} {p p1 p2 pos : Pos} {k : Nat} {f} (hf : RefE C n sc x f) : RefE C n sc (.Subscript x (.Slice none none (some (.UnaryOp .USub (.Constant (.int 1) k p1) p2)) p) pos) (cRev f) := by
  intro A env E s hk as st st' v Q R F e X K
  refine ob_elim e fun a s1 q1 e => onRef_elim e fun i hi e => onList_elim e fun xs qx e => bT_elim e fun qb e => ob_elim e fun w o qn z => ?_
  subst hi
  refine Subscript_ (hf R F q1 X fun as1 h1 t1 x p1 X1 hx => wpAny_Slice ?_)
  show wpAny _ _ (evalPart none env) _ _ _
  rw [evalPart_none]
  refine wpAny_pure (wpAny_pure ?_)
  rw [evalPart_some]
  refine wpAny_UnaryOp (wpAny_Constant_int (P.neg_int (X1.listE qx hx fun a items m ha hl hr => ?_)))
  have X4 := X1.push { cls := .type "slice", data := .fields #[.none, .none, .int (-1) (t1 + 1)] }
  refine tail_any (T := "list") (IsL.isList (hl.push _)).typeIs slot_list_getitem.lookup ?_ (ops := [.ref a, .ref h1.objs.size]) rfl
  refine wpAny_getItem_list_slice (hl.push _).isList (Heap.IsSliceOf.new h1 .none .none _) .none .none (.int (-1) _) (by simp) ?_ (len_s qb hr.length)
  have X5 := X4.pushList qn (items := slicePick items none none (some (-1))) (by
    rw [krv_pick]
    exact hr.reverse)
  exact kRetT z K _ _ _ _ (p1.trans pre1) X5.1 X5.2
/-! calls of the built-ins -/
noncomputable def CallOk (C : Cx) (t : List Value → Sem Value) (op : List AV → Store → Option (AV × Store)) : Prop :=
  ∀ ⦃A : Around⦄ ⦃E : Value → Shared → Prop⦄ ⦃s : Shared⦄ ⦃hk : Heap⦄ ⦃as : List Addr⦄ ⦃st : St⦄ ⦃L : Fm⦄ ⦃a : List AV⦄ ⦃v : AV⦄ ⦃x : List Value⦄ ⦃os' : Store⦄ ⦃Q : Value → Shared → Prop⦄,
    A.handled = none → A.units + 200 < cLine → op a st.os = some (v, os') → Rel C hk as st L s.heap → RVs C as a x →
    (∀ as' h' tk val, as <+: as' → Rel C hk as' ⟨st.loc, os'⟩ L h' → RV C as' v val → Q val { s with heap := h', toks := tk }) → wpAny (model prog C.w) A (t x) Q E s
noncomputable def cCall (op : List AV → Store → Option (AV × Store)) (f : St → Option (List AV × St)) : St → Option (AV × St) := fun s => ob (f s) fun a s1 => ob (op a s1.os) fun v o => mkS v s1 o
theorem cCall_eq {op : List AV → Store → Option (AV × Store)} {f : St → Option (List AV × St)} {st st' : St} {v : AV} (e : cCall op f st = some (v, st')) : ∃ a s1 o, f st = some (a, s1) ∧ op a s1.os = some (v, o) ∧ st' = ⟨s1.loc, o⟩ :=
  ob_elim e fun a s1 q e => ob_elim e fun w o q2 z => by cases z; exact ⟨a, s1, o, q, q2, rfl⟩
theorem Ok.global (O : Ok C) {hk : Heap} {as : List Addr} {st : St} {L : Fm} {s : Shared} (X : Rel C hk as st L s.heap) : s.heap.Ns mainGlobals C.mg := O.g.keeps fun b o e => X.S.inBase e
theorem Ok.builtin (O : Ok C) {hk : Heap} {as : List Addr} {st : St} {L : Fm} {s : Shared} (X : Rel C hk as st L s.heap) : s.heap.Ns builtinsNs C.mb := O.b.keeps fun b o e => X.S.inBase e
theorem nameB (O : Ok C) {A : Around} {E : Value → Shared → Prop} {s : Shared} {hk : Heap} {as : List Addr} {st : St} {env : Env} (X : Rel C hk as st (fmOf sc env) s.heap) (F : Frm sc env) {g : Str} {v : Value} {pos : Pos} {Q : Value → Shared → Prop}
    (hx : sc.s.names.lookup g = some .globalImplicit) (hm : C.mg g = none) (hv : bootBuiltins g = some v) (hd : (g == ("__debug__" : Str)) = false) (hn : g ≠ "__name__") (K : Q v s) : wpAny (model prog C.w) A (eval (.Name g pos) env) Q E s :=
  Calls.Name_function_global F.fn (F.kindOf hx) (Calls.loadGlobal_builtin (by rw [F.glob]; exact O.global X) hm (by rw [F.bi]; exact O.builtin X) ((O.bi g hn).trans hv) K) hd
theorem nameG (O : Ok C) {A : Around} {E : Value → Shared → Prop} {s : Shared} {hk : Heap} {as : List Addr} {st : St} {env : Env} (X : Rel C hk as st (fmOf sc env) s.heap) (F : Frm sc env) {g : Str} {v : Value} {pos : Pos} {Q : Value → Shared → Prop}
    (hx : sc.s.names.lookup g = some .globalImplicit) (hm : C.mg g = some v) (hd : (g == ("__debug__" : Str)) = false) (K : Q v s) : wpAny (model prog C.w) A (eval (.Name g pos) env) Q E s :=
  Calls.Name_function_global F.fn (F.kindOf hx) (Calls.loadGlobal_global (by rw [F.glob]; exact O.global X) hm K) hd
/-- the arguments of a plain call -/
theorem args_of {A : Around} {E : Value → Shared → Prop} {s : Shared} {env : Env} {f : Value} {e : Expr} {es : List Expr} {pos : Pos} {Q : Args → Shared → Prop}
    (he : starEach (e :: es) env = (false, eval e env) :: starEach es env)
    (h : wpAny (model prog C.w) A (spliced (backTo pos (starEach (e :: es) env))) (fun vs s' => Q ⟨vs, []⟩ s') E s) : wpAny (model prog C.w) A (evalArgs f true (backTo pos (starEach (e :: es) env)) []) Q E s := by
  rw [he] at h ⊢
  exact Calls.evalArgs_plain h
/-- callable without a look at a heap: a built-in function, a type -/
inductive Flat : Value → Prop
  | b (id : String) : Flat (.builtin id)
  | t (T : String) : Flat (.type T)
theorem callFlat {A : Around} {E : Value → Shared → Prop} {s : Shared} {f : Value} {first : List Value} {args : List (Bool × Sem Value)} {pos : Pos} {Q : Value → Shared → Prop} (hf : Flat f) (hp : args.any (·.1) = false)
    (h : wpAny (model prog C.w) A (evalArgs f true args []) (fun a s₁ => wpAny (model prog C.w) A (call f (first ++ a.pos) a.kw) Q E s₁) E s) : wpAny (model prog C.w) A (callWith pos f first args []) Q E s := by
  cases hf with
  | b id => exact Calls.callWith_builtin hp h
  | t T => exact PyProof.Rows.callWith_type hp h
theorem RefE.callB (O : Ok C) {g : Str} {v : Value} {e : Expr} {es : List Expr} {p pos : Pos} {op} {fs} (hop : CallOk C (fun vs => call v vs) op) (hfs : RefL C n sc (e :: es) (cSeq fs)) (hfl : Flat v)
    (hx : sc.s.names.lookup g = some .globalImplicit) (hm : C.mg g = none) (hv : bootBuiltins g = some v) (hd : (g == ("__debug__" : Str)) = false) (hn : g ≠ "__name__")
    (he : ∀ env, starEach (e :: es) env = (false, eval e env) :: starEach es env := by intro _; rfl) (hp : ∀ env, (backTo pos (starEach (e :: es) env)).any (·.1) = false := by intro _; rfl) :
    RefE C n sc (.Call (.Name g p) (e :: es) [] pos) (cCall op (cSeq fs)) := by
  intro A env E s hk as st st' u Q R F e' X K
  refine ob_elim e' fun a s1 q1 e => ob_elim e fun w o q2 z => ?_
  refine wpAny_Call_Name_kw (nameB O X F hx hm hv hd hn ?_)
  refine callFlat hfl (hp env) (args_of (he env) (hfs pos R F q1 X fun as1 h1 t1 xs p1 X1 hxs => ?_))
  exact hop R.handled R.u200 q2 X1 hxs fun as2 h2 t2 val p2 X2 hv => kRetT z K as2 h2 t2 val (p1.trans p2) X2 hv
/-! the program's own functions -/
structure FnAt (C : Cx) (d : DefRec) (a : Addr) : Prop where
  mg : C.mg d.name = some (.ref a)
  fn : ∃ o pm code doc, C.hb.get? a = some o ∧ o.data = .func (Calls.docDef d.name d.params d.body d.scope pm code doc) ∧ C.hb.CodeRec code d.name
noncomputable abbrev Fn := List AV → Store → Option (AV × Store)
noncomputable def RefF (C : Cx) (n : Nat) (a : Addr) (fn : Fn) : Prop :=
  ∀ ⦃A : Around⦄ ⦃E : Value → Shared → Prop⦄ ⦃s : Shared⦄ ⦃hk : Heap⦄ ⦃as : List Addr⦄ ⦃os os' : Store⦄ ⦃args : List AV⦄ ⦃vals : List Value⦄ ⦃v : AV⦄ ⦃Q : Value → Shared → Prop⦄,
    Room A n → fn args os = some (v, os') → RelS C hk as os s.heap → RVs C as args vals →
    (∀ as' h' tk val, as <+: as' → RelS C hk as' os' h' → RV C as' v val → Q val { s with heap := h', toks := tk }) → wpAny (model prog C.w) A (call (.ref a) vals) Q E s
theorem RefF.less {a : Addr} {fn : Fn} {m : Nat} (h : RefF C n a fn) (hm : n ≤ m) : RefF C m a fn := fun _ _ _ _ _ _ _ _ _ _ _ R => h (R.less hm)
/-- from a frame: the frame stands -/
theorem Rel.callee {hk : Heap} {as as' : List Addr} {st : St} {os' : Store} {f : Fm} {h h' : Heap} (X : Rel C hk as st f h) (p : as <+: as') (Y : RelS C (RelS.all as h) as' os' h') : Rel C hk as' ⟨st.loc, os'⟩ f h' := by
  have hLk : ∀ a, a ∉ as → ∀ o, h.get? a = some o → h'.get? a = some o := fun a ha o e => Y.keep _ _ (RelS.allGet e ha)
  have hnot : ∀ a, a ∉ as → (∃ o, h.get? a = some o) → a ∉ as' := fun a ha ⟨o, e⟩ q => by
    have h1 := RelS.allGet e ha
    rw [Y.off a q] at h1; cases h1
  exact X.move (X.S.back Y) p (hLk _ X.notL) (hnot _ X.notL X.liveL) fun x ca q => ⟨hLk ca (X.cnot x ca q), hnot ca (X.cnot x ca q) (X.clive' q)⟩
theorem RefE.callF (O : Ok C) {d : DefRec} {fa : Addr} (D : FnAt C d fa) {fn : Fn} {g : Str} {e : Expr} {es : List Expr} {p pos : Pos} {fs} (hop : RefF C n fa fn) (hfs : RefL C n sc (e :: es) (cSeq fs)) (hg : d.name = g)
    (hx : sc.s.names.lookup g = some .globalImplicit) (hd : (g == ("__debug__" : Str)) = false)
    (he : ∀ env, starEach (e :: es) env = (false, eval e env) :: starEach es env := by intro _; rfl) :
    RefE C n sc (.Call (.Name g p) (e :: es) [] pos) (cCall fn (cSeq fs)) := by
  intro A env E s hk as st st' u Q R F e' X K
  refine ob_elim e' fun a s1 q1 e => ob_elim e fun w o q2 z => ?_
  obtain ⟨ob, pm, code, doc, ho, hdt, hcr⟩ := D.fn
  refine wpAny_Call_Name_kw (nameG O X F hx (hg ▸ D.mg) hd ?_)
  refine Calls.callWith_function (o := ob) (fd := Calls.docDef d.name d.params d.body d.scope pm code doc) (args_of (he env) (hfs pos R F q1 X fun as1 h1 t1 xs p1 X1 hxs => ⟨⟨X1.S.inBase ho, hdt⟩, ?_⟩))
  show wpAny _ _ (call (.ref fa) ([] ++ xs) []) Q E _
  rw [List.nil_append]
  exact hop R q2 X1.S.wide hxs fun as2 h2 t2 val p2 Y hv => kRetT z K as2 h2 t2 val (p1.trans p2) (X1.callee p2 Y) hv
noncomputable def zipL : List Nat → List AV → Loc
  | k :: ks, v :: vs => (k, v) :: zipL ks vs
  | _, _ => []
theorem zip_none {ks : List Nat} {k : Nat} {r : List Value} (hk : k < 65) (h50 : ∀ i ∈ ks, i < 65) (hnd : k ∉ ks) : List.lookup (nm k) ((ks.map nm).zip r).reverse = none := by
  rw [List.lookup_eq_none_iff]
  intro p hp
  obtain ⟨i, hi, hie⟩ := List.mem_map.mp (List.of_mem_zip (List.mem_reverse.mp hp)).1
  have hne : ¬ nm k = p.1 := fun z => hnd (nm_inj k i hk (h50 i hi) (z.trans hie.symm) ▸ hi)
  simp [hne]
theorem lookup_zip {as : List Addr} (ks : List Nat) : ∀ (args : List AV) (vals : List Value), RVs C as args vals → (∀ k ∈ ks, k < 65) → ks.Nodup → ∀ k v, lk k (zipL ks args) = some v → k ∈ ks ∧ ∃ val, ((ks.map nm).zip vals).reverse.lookup (nm k) = some val ∧ RV C as v val := by
  induction ks with
  | nil => intro args vals _ _ _ k v e; simp [zipL, lk_nil] at e
  | cons j ks ih =>
    intro args vals hr h50 hnd k v e
    cases args with
    | nil => simp [zipL, lk_nil] at e
    | cons a args =>
      obtain ⟨x, r, e2, hx, hr⟩ := hr
      subst e2
      have hnd' := List.nodup_cons.mp hnd
      have e : lk k ((j, a) :: zipL ks args) = some v := e
      rw [lk_cons] at e
      simp only [List.map_cons, List.zip_cons_cons, List.reverse_cons, List.lookup_append]
      by_cases q : k = j
      · subst q
        rw [if_pos rfl] at e
        cases e
        rw [zip_none (h50 k (.head _)) (fun i hi => h50 i (.tail _ hi)) hnd'.1]
        exact ⟨.head _, x, by simp, hx⟩
      · rw [if_neg q] at e
        obtain ⟨hm, val, hl, hv⟩ := ih args r hr (fun k hk => h50 k (.tail _ hk)) hnd'.2 k v e
        exact ⟨.tail _ hm, val, by rw [hl]; rfl, hv⟩
noncomputable def retF (fl : AF) (s : St) : Option (AV × Store) := match fl with
  | .ret v => some (v, s.os)
  | .next => some (.none, s.os)
  | _ => none
theorem retF_elim {fl : AF} {s : St} {r : AV × Store} {P : Prop} (e : retF fl s = some r) (h1 : ∀ v, fl = .ret v → some (v, s.os) = some r → P) (h2 : fl = .next → some (AV.none, s.os) = some r → P) : P := by
  cases fl with
  | ret v => exact h1 v rfl e
  | next => exact h2 rfl e
  | _ => exact noS e
noncomputable def fnOf (ks : List Nat) (f : St → Option (AF × St)) : Fn := fun args os => bT (Nat.beq args.length ks.length) <| ob (f ⟨zipL ks args, os⟩) retF
theorem fnOf_len {ks : List Nat} {f : St → Option (AF × St)} {args : List AV} {os : Store} {v : AV × Store} (e : fnOf ks f args os = some v) : args.length = ks.length :=
  bT_elim e fun q _ => Nat.eq_of_beq_eq_true q
theorem fnOf_run (O : Ok C) {s0 : Scope} {own : Bool} {body : List Stmt} {ks : List Nat} {f} (hf : RefSs C n ⟨s0, own⟩ body f) {args : List AV} {os os' : Store} {v : AV} (e : fnOf ks f args os = some (v, os'))
    {A : Around} {s : Shared} {hk : Heap} {as : List Addr} {env : Env} {Q : Value → Shared → Prop} {Q' : Flow → Shared → Prop} {E'} {h0 : Heap} {tk0 : Nat}
    (R' : Room A n) (F : Frm ⟨s0, own⟩ env) (Y : Rel C hk as ⟨zipL ks args, os⟩ (fmOf ⟨s0, own⟩ env) h0)
    (K : ∀ as' h' tk val, as <+: as' → RelS C hk as' os' h' → RV C as' v val → Q val { s with heap := h', toks := tk })
    (hR : ∀ val s', Q val s' → Q' (.ret val) s') (hN : ∀ s', Q .none s' → Q' .next s') :
    wpAny (model prog C.w) A (execs body env) Q' E' { s with heap := h0, toks := tk0 } := by
  refine bT_elim e fun _ e => ob_elim e fun fl s1 q e => ?_
  refine hf R' F q Y fun as1 h1 t1 fl' p1 Y1 hfl => retF_elim e (fun u hu z => ?_) fun hu z => ?_
  · subst hu
    cases z
    exact hfl.elim fun val hv => by rw [hv.1]; exact hR _ _ (K as1 h1 t1 val p1 Y1.S hv.2)
  · subst hu
    cases z
    cases hfl
    exact hN _ (K as1 h1 t1 .none p1 Y1.S rfl)
theorem Room.deeper {A : Around} {env : Env} {n : Nat} (R : Room A (n + 1)) : Room (A.deeper env) n := ⟨R.handled, by have := R.depth; show A.depth + 1 + n < _; omega, by have := R.units; show A.units + 3 + 20 * n + 200 < _; omega⟩
theorem Room.in1 {A : Around} {n : Nat} (R : Room A n) : A.depth < recursionLimit := Nat.lt_of_le_of_lt (Nat.le_add_right _ _) R.depth
theorem get_size (h : Heap) : h.get? h.objs.size = none := by
  cases q : h.get? h.objs.size with
  | none => rfl
  | some o => exact absurd (Heap.lt_size q) (Nat.lt_irrefl _)
theorem frame_rel {hk h h₀ : Heap} {as : List Addr} {os : Store} {ks : List Nat} {args : List AV} {vals : List Value} (X : RelS C hk as os h) (hx : RVs C as args vals) (hks : ∀ k ∈ ks, k < 65) (hnd : ks.Nodup)
    (hext : ∀ b o, h.get? b = some o → h₀.get? b = some o) (hns : h₀.Ns h.objs.size (fun x => ((ks.map nm).zip vals).reverse.lookup x)) : Rel C (RelS.all as h) as ⟨zipL ks args, os⟩ ⟨h.objs.size, [], true⟩ h₀ :=
  ⟨X.wide.ext hext, X.wide.notK (get_size h), X.notIn (get_size h), ⟨_, hns, fun k v e => let ⟨a, b⟩ := lookup_zip ks args vals hx hks hnd k v e; ⟨hks k a, b⟩⟩, (by intro x ca q; cases q), (by intro x ca q; cases q), (by intro x ca q; cases q), (by intro _ x ca q; cases q), (by intro x y ca q; cases q)⟩
/-- a function of the program, called: its frame -/
theorem enter (O : Ok C) {fd : FuncData} {s0 : Scope} {body : List Stmt} {fa : Addr} {ob : Obj} {ks : List Nat} {A : Around} {s : Shared} {RR : Result → Shared → Prop} {vals : List Value} (hE : (callEnv fd s.heap.objs.size fa).cells = []) (hG : (callEnv fd s.heap.objs.size fa).globals = mainGlobals) (hB : (callEnv fd s.heap.objs.size fa).builtins = builtinsNs) (hsc : fd.scope = s0) (hbody : fd.body = .stmts body) (base : ∀ b o, C.hb.get? b = some o → s.heap.get? b = some o)
    (ho : C.hb.get? fa = some ob) (hdt : ob.data = .func fd) (hcr : C.hb.CodeRec fd.code fd.qualname) (hb : BindsTo s fd ⟨vals, []⟩ ((ks.map nm).zip vals)) (hkl : ∀ k ∈ ks, s0.names.lookup (nm k) = some .local) (hcell : ∀ x ∈ s0.names, x.2 ≠ .cell)
    (hco : s0.isCoroutine = false) (hgen : s0.isGenerator = false) (hk : s0.kind = .function) (R : Room A (n + 1))
    (K : ∀ env h₀ tk, Room (A.deeper env) n → Frm ⟨s0, true⟩ env → env.locals = s.heap.objs.size → env.frame = some s.heap.objs.size → env.cells = [] → fmOf ⟨s0, true⟩ env = ⟨s.heap.objs.size, [], true⟩ → h₀.Ns s.heap.objs.size (fun x => ((ks.map nm).zip vals).reverse.lookup x) → (∀ b o, s.heap.get? b = some o → h₀.get? b = some o) →
      wpAny (model prog C.w) (A.deeper env) (execs body env) (fun f s' => RR (.ok (.ret (match f with | .ret v => v | _ => .none))) s')
        (fun e s' => wpAny (model prog C.w) (A.deeper env) (leaving env e) (fun _ s'' => RR (.error e) s'') (fun e' s'' => RR (.error e') s'') s') { s with heap := h₀, toks := tk }) :
    codeAny (model prog C.w) A (.call (.ref fa) ⟨vals, []⟩) RR s := by
  subst hsc
  refine codeAny_call_def R.in1 (base _ _ ho) hdt (O.nolimit.keeps base) (hcr.keeps base) hbody hb hcell (fun x hx => ?_) (fun h₀ hns hext => ?_) hco hgen hk
  · obtain ⟨k, hk, hke⟩ := List.mem_map.mp (List.of_mem_zip hx).1
    rw [← hke]
    exact hkl k hk
  · exact K _ h₀ _ R.deeper ⟨rfl, hk, by rw [hE]; exact List.nodup_nil, fun x _ => by rw [hE]; rfl, fun x q => absurd rfl (hcell _ (mem_of_lookup q)), hG, hB⟩ rfl rfl hE (by unfold fmOf; rw [hE]; rfl) hns hext
theorem RefF.mk (O : Ok C) {d : DefRec} {fa : Addr} (D : FnAt C d fa) {ks : List Nat} {f} (hf : RefSs C n ⟨d.scope, true⟩ d.body f)
    (hb : ∀ (s : Shared) (pm code doc : Value) (vals : List Value), vals.length = ks.length → BindsTo s (Calls.docDef d.name d.params d.body d.scope pm code doc) ⟨vals, []⟩ ((ks.map nm).zip vals))
    (hks : ∀ k ∈ ks, k < 65) (hnd : ks.Nodup) (hkl : ∀ k ∈ ks, d.scope.names.lookup (nm k) = some .local) (hcell : ∀ x ∈ d.scope.names, x.2 ≠ .cell) (hco : d.scope.isCoroutine = false) (hgen : d.scope.isGenerator = false) (hk : d.scope.kind = .function) :
    RefF C (n + 1) fa (fnOf ks f) := by
  intro A E s hk' as os os' args vals v Q R e X hx K
  obtain ⟨ob, pm, code, doc, ho, hdt, hcr⟩ := D.fn
  have hlen : vals.length = ks.length := hx.length.trans (fnOf_len e)
  refine wpAny_call (enter O rfl rfl rfl rfl rfl (fun b o e => X.inBase e) ho hdt hcr (hb s pm code doc vals hlen) hkl hcell hco hgen hk R fun env h₀ tk R' F _ _ _ fL hns hext => ?_)
  refine fnOf_run (Q := Q) O hf e R' F (fL ▸ frame_rel X hx hks hnd hext hns) (fun as1 h1 t1 val p1 Y1 hv => K as1 h1 t1 val p1 (X.back Y1) hv) ?_ ?_
  · intro _ _ q
    exact q
  · intro _ q
    exact q
theorem cellsFrom_names : ∀ (names : List (Str × NameKind)) (n : Nat) (acc : List (Str × Addr)), (cellsFrom n names acc).map (·.1) = ((names.filter (·.2 == .cell)).map (·.1)).reverse ++ acc.map (·.1)
  | [], _, _ => rfl
  | (x, k) :: r, n, acc => by
    unfold cellsFrom
    by_cases h : (k == NameKind.cell) = true
    · rw [if_pos h, cellsFrom_names r, List.filter_cons, if_pos h]
      simp
    · rw [if_neg h, cellsFrom_names r, List.filter_cons, if_neg h]
theorem lookup_some_of_mem {l : List (Str × Addr)} {x : Str} (h : x ∈ l.map (·.1)) : ∃ c, l.lookup x = some c := by
  induction l with
  | nil => cases h
  | cons p r ih =>
    obtain ⟨y, d⟩ := p
    rw [List.lookup_cons]
    by_cases q : x = y
    · subst q; simp
    · rw [beq_eq_false_iff_ne.mpr q]
      exact ih (by simpa [q] using h)
/-- one parameter, some cells -/
theorem RefF.mkC (O : Ok C) {d : DefRec} {fa : Addr} (D : FnAt C d fa) {k : Nat} {f} (hf : RefSs C n ⟨d.scope, true⟩ d.body f)
    (hb : ∀ (pm code doc : Value) (val : Value), bindArgs (Calls.docDef d.name d.params d.body d.scope pm code doc) ⟨[val], []⟩ = pure [(nm k, val)])
    (hk5 : k < 65) (hkl : d.scope.names.lookup (nm k) = some .local ∨ d.scope.names.lookup (nm k) = some .cell) (hnd : ((d.scope.names.filter (·.2 == .cell)).map (·.1)).reverse.Nodup)
    (hcl : ∀ p ∈ d.scope.names, p.2 = .cell → d.scope.names.lookup p.1 = some .cell) (hco : d.scope.isCoroutine = false) (hgen : d.scope.isGenerator = false) (hk : d.scope.kind = .function) :
    RefF C (n + 1) fa (fnOf [k] f) := by
  intro A E s hk' as os os' args vals v Q R e X hx K
  obtain ⟨ob, pm, code, doc, ho, hdt, hcr⟩ := D.fn
  have hlen : args.length = 1 := fnOf_len e
  obtain ⟨a, rfl⟩ : ∃ a, args = [a] := List.length_eq_one_iff.mp hlen
  obtain ⟨val, r, rfl, ha, hr⟩ := hx
  have hr' : r = [] := hr
  subst hr'
  have cn : ∀ m, (cellsFrom m d.scope.names []).map (·.1) = ((d.scope.names.filter (·.2 == .cell)).map (·.1)).reverse := fun m => by rw [cellsFrom_names]; simp
  have hcc : ∀ m x, d.scope.names.lookup x = some .cell → ∃ ca, (cellsFrom m d.scope.names []).lookup x = some ca := fun m x q => lookup_some_of_mem (by
    rw [cn]
    exact List.mem_reverse.mpr (List.mem_map.mpr ⟨(x, .cell), List.mem_filter.mpr ⟨mem_of_lookup q, rfl⟩, rfl⟩))
  have hlc : ∀ m x, d.scope.names.lookup x = some .local → (cellsFrom m d.scope.names []).lookup x = none := fun m x q => by
    cases q2 : (cellsFrom m d.scope.names []).lookup x with
    | none => rfl
    | some ca =>
      have h1 : x ∈ (cellsFrom m d.scope.names []).map (·.1) := List.mem_map.mpr ⟨(x, ca), mem_of_lookup q2, rfl⟩
      rw [cn] at h1
      obtain ⟨p, hp, rfl⟩ := List.mem_map.mp (List.mem_reverse.mp h1)
      obtain ⟨h2, h3⟩ := List.mem_filter.mp hp
      have := hcl p h2 (by simpa using h3)
      rw [this] at q; cases q
  refine wpAny_call (codeAny_call_cells R.in1 (X.inBase ho) hdt (O.nolimit.keeps fun b o e => X.inBase e) (hcr.keeps fun b o e => X.inBase e) rfl (hb pm code doc val) rfl ?_ (fun s₁ I => ?_) hco hgen hk)
  · intro x hx'
    rw [List.mem_singleton.mp hx']
    rcases hkl with q | q
    · exact .inl q
    · obtain ⟨ca, hca⟩ := hcc (s.heap.objs.size + 1) _ q
      exact .inr ⟨q, by rw [show (Calls.docDef d.name d.params d.body d.scope pm code doc).scope = d.scope from rfl, hca]; rfl⟩
  have fresh : ∀ a, s.heap.objs.size ≤ a → s.heap.get? a = none := fun a ha => by
    cases q : s.heap.get? a with
    | none => rfl
    | some o => exact absurd (Heap.lt_size q) (Nat.not_lt.mpr ha)
  obtain ⟨h₁, tk, rfl⟩ := I.toInCall.same
  have R' : Room (A.deeper (callEnvC (Calls.docDef d.name d.params d.body d.scope pm code doc) s.heap.objs.size fa)) n := R.deeper
  have F : Frm ⟨d.scope, true⟩ (callEnvC (Calls.docDef d.name d.params d.body d.scope pm code doc) s.heap.objs.size fa) := ⟨rfl, hk, by
    show ((cellsFrom _ d.scope.names []).map _).Nodup
    rw [cn]; exact hnd, hlc _, hcc _, rfl, rfl⟩
  have X0 : RelS C (RelS.all as s.heap) as os h₁ := X.wide.ext I.toInCall.keep
  have cab : ∀ x ca, (callEnvC (Calls.docDef d.name d.params d.body d.scope pm code doc) s.heap.objs.size fa).cells.lookup x = some ca → s.heap.objs.size < ca := fun x ca q => I.above x ca (mem_of_lookup q)
  have Y : Rel C (RelS.all as s.heap) as ⟨zipL [k] [a], os⟩ (fmOf ⟨d.scope, true⟩ (callEnvC (Calls.docDef d.name d.params d.body d.scope pm code doc) s.heap.objs.size fa)) h₁ := by
    refine ⟨X0, X.wide.notK (fresh _ (Nat.le_refl _)), X.notIn (fresh _ (Nat.le_refl _)), ⟨_, I.toInCall.ns, fun j u e2 => ?_⟩, fun x ca q => X.notIn (fresh _ (Nat.le_of_lt (cab x ca q))), fun x ca q => Nat.ne_of_gt (cab x ca q), fun x ca q => ⟨_, I.cell x ca q⟩,
      fun _ x ca q => X.wide.notK (fresh _ (Nat.le_of_lt (cab x ca q))), fun x y ca q1 q2 => name_of_addr I.apart (mem_of_lookup q1) (mem_of_lookup q2)⟩
    have e2 : lk j ((k, a) :: []) = some u := e2
    rw [lk_cons] at e2
    by_cases q : j = k
    · subst q
      rw [if_pos rfl] at e2
      cases e2
      refine ⟨hk5, val, ?_, ha⟩
      unfold VarAt
      show match (callEnvC (Calls.docDef d.name d.params d.body d.scope pm code doc) s.heap.objs.size fa).cells.lookup (nm j) with | none => _ | some ca => _
      rcases hkl with q | q
      · rw [show (callEnvC (Calls.docDef d.name d.params d.body d.scope pm code doc) s.heap.objs.size fa).cells.lookup (nm j) = none from hlc _ _ q]
        show (if (d.scope.names.lookup (nm j)) = some .local then fun y => if y = nm j then some val else none else fun _ => none) (nm j) = some val
        rw [if_pos q]; exact if_pos rfl
      · obtain ⟨ca, hca⟩ := hcc (s.heap.objs.size + 1) _ q
        have hca' : (callEnvC (Calls.docDef d.name d.params d.body d.scope pm code doc) s.heap.objs.size fa).cells.lookup (nm j) = some ca := hca
        rw [hca']
        have := I.cell _ ca hca'
        have e4 : bindC (callEnvC (Calls.docDef d.name d.params d.body d.scope pm code doc) s.heap.objs.size fa).kindOf [(nm j, val)] (fun _ => none) (nm j) = some val := by
          show (if (d.scope.names.lookup (nm j)) = some .local then fun _ => none else fun y => if y = nm j then some val else none) (nm j) = some val
          rw [if_neg (by rw [q]; decide)]; exact if_pos rfl
        rw [e4] at this
        exact this
    · rw [if_neg q] at e2; cases e2
  refine fnOf_run (Q := Q) O hf e R' F Y (fun as1 h1 t1 val p1 Y1 hv => K as1 h1 t1 val p1 (X.back Y1) hv) ?_ ?_
  · intro _ _ q
    exact q
  · intro _ q
    exact q
end
end Mine
end
end
section
set_option maxRecDepth 100000
set_option linter.unusedVariables false
set_option linter.unusedSectionVars false
set_option autoImplicit false
set_option genSizeOf false
set_option genInjectivity false
noncomputable section
namespace Mine
open PySem PySem.W PyProof.Rows
section
variable {C : Cx} {n : Nat} {sc : Sc}
/-! targets -/
noncomputable def RefA (C : Cx) (n : Nat) (sc : Sc) (tg : Expr) (f : AV → St → Option St) : Prop :=
  ∀ ⦃A : Around⦄ ⦃env : Env⦄ ⦃E : Value → Shared → Prop⦄ ⦃s : Shared⦄ ⦃hk : Heap⦄ ⦃as : List Addr⦄ ⦃st st' : St⦄ ⦃v : AV⦄ ⦃val : Value⦄ ⦃Q : Unit → Shared → Prop⦄,
    Room A n → Frm sc env → f v st = some st' → Rel C hk as st (fmOf sc env) s.heap → RV C as v val →
    (∀ h' tk, Rel C hk as st' (fmOf sc env) h' → Q () { s with heap := h', toks := tk }) → wpAny (model prog C.w) A (assign tg env val) Q E s
noncomputable def aName (k : Nat) : AV → St → Option St := fun v s => match s with
  | ⟨l, o⟩ => bndK k v l fun l' => some ⟨l', o⟩
theorem aName_eq (k : Nat) (v : AV) (s : St) : aName k v s = some ⟨bnd k v s.loc, s.os⟩ := bndK_eq k v s.loc _
theorem storeLoc {A : Around} {env : Env} {E : Value → Shared → Prop} {s : Shared} {hk : Heap} {as : List Addr} {st : St} {v : AV} {val : Value} {Q : Unit → Shared → Prop} {k : Nat}
    (F : Frm sc env) (hk5 : k < 65) (hl : sc.s.names.lookup (nm k) = some .local) (X : Rel C hk as st (fmOf sc env) s.heap) (hv : RV C as v val)
    (K : ∀ h' tk, Rel C hk as ⟨bnd k v st.loc, st.os⟩ (fmOf sc env) h' → Q () { s with heap := h', toks := tk }) : wpAny (model prog C.w) A (storeName env (nm k) val) Q E s := by
  obtain ⟨m, hn, hlo⟩ := X.ns
  exact wpAny_storeName_local (F.kindOf hl) hn (fun h' hn' hs => K h' _ (X.store hn hlo hk5 hv (F.lc _ hl) hn' hs)) F.plain
/-- a name to be stored: a local, or a cell of its own frame -/
structure Wr (sc : Sc) (k : Nat) : Prop where
  lt : k < 65
  kind : sc.s.names.lookup (nm k) = some .local ∨ (sc.s.names.lookup (nm k) = some .cell ∧ sc.own = true)
theorem storeAny {A : Around} {env : Env} {E : Value → Shared → Prop} {s : Shared} {hk : Heap} {as : List Addr} {st : St} {v : AV} {val : Value} {Q : Unit → Shared → Prop} {k : Nat}
    (F : Frm sc env) (W : Wr sc k) (X : Rel C hk as st (fmOf sc env) s.heap) (hv : RV C as v val)
    (K : ∀ h' tk, Rel C hk as ⟨bnd k v st.loc, st.os⟩ (fmOf sc env) h' → Q () { s with heap := h', toks := tk }) : wpAny (model prog C.w) A (storeName env (nm k) val) Q E s := by
  rcases W.kind with hl | ⟨hl, ho⟩
  · exact storeLoc F W.lt hl X hv K
  · obtain ⟨m, hn, hlo⟩ := X.ns
    obtain ⟨ca, hca⟩ := F.cc _ hl
    obtain ⟨v0, hv0⟩ := X.clive _ ca hca
    exact wpAny_storeName_cell F.fn (F.kindOf hl) hca hv0 fun h' hc hs => K h' s.toks (X.storeC hn hlo W.lt hv hca ho hc hs)
theorem kA {hk : Heap} {L : Fm} {as : List Addr} {Q : Unit → Shared → Prop} {s : Shared} {b st' : St} (e : some b = some st') (K : ∀ h' tk, Rel C hk as st' L h' → Q () { s with heap := h', toks := tk }) :
    ∀ h' tk, Rel C hk as b L h' → Q () { s with heap := h', toks := tk } := by cases e; exact K
theorem aName_is {k : Nat} {v : AV} {s s2 : St} (q : aName k v s = some s2) : ⟨bnd k v s.loc, s.os⟩ = s2 := Option.some.inj ((aName_eq k v s).symm.trans q)
theorem RefA.name {k : Nat} {pos : Pos} (hk : Wr sc k) : RefA C n sc (.Name (nm k) pos) (aName k) := by
  intro A env E s hk' as st st' v val Q R F e X hv K
  exact wpAny_assign_Name (storeAny F hk X hv (kA ((aName_eq k v st).symm.trans e) K))
/-- one more temporary, at the end of the heap -/
theorem Rel.temp {hk : Heap} {as : List Addr} {st : St} {L : Fm} {h h' : Heap} (X : Rel C hk as st L h) (hs : Heap.ExtBut h.objs.size h h') : Rel C hk as st L h' :=
  X.ext fun b o e => hs b o (fun q => absurd (Heap.lt_size e) (q ▸ Nat.lt_irrefl _)) e
noncomputable def aTup2 (k j : Nat) : AV → St → Option St := fun v s => onRef v fun i => onTup (s.os.get i) fun xs => onPair xs fun x y => match s with
  | ⟨l, o⟩ => bndK k x l fun l' => bndK j y l' fun l'' => some ⟨l'', o⟩
noncomputable def aTup3 (k j l : Nat) : AV → St → Option St := fun v s => onRef v fun i => onTup (s.os.get i) fun xs => on3 xs fun x y z => match s with
  | ⟨m, o⟩ => bndK k x m fun l' => bndK j y l' fun l'' => bndK l z l'' fun l3 => some ⟨l3, o⟩
theorem bnd2 {k j : Nat} {x y : AV} {l : Loc} {o : Store} {r : Option St} (e : bndK k x l (fun l' => bndK j y l' fun l'' => some (⟨l'', o⟩ : St)) = r) : some ⟨bnd j y (bnd k x l), o⟩ = r := by
  rw [bndK_eq, bndK_eq] at e; exact e
theorem bnd3 {k j i : Nat} {x y z : AV} {l : Loc} {o : Store} {r : Option St} (e : bndK k x l (fun l' => bndK j y l' fun l'' => bndK i z l'' fun l3 => some (⟨l3, o⟩ : St)) = r) : some ⟨bnd i z (bnd j y (bnd k x l)), o⟩ = r := by
  rw [bndK_eq, bndK_eq, bndK_eq] at e; exact e
theorem rvs2L {as : List Addr} {a b : AV} {x : Array Value} (hx : RVs C as [a, b] x.toList) : ∃ w z, x = #[w, z] ∧ RV C as a w ∧ RV C as b z := by
  obtain ⟨w, r, e, hw, z, r2, rfl, hz, hr⟩ := hx
  cases hr
  exact ⟨w, z, Array.toList_inj.mp e, hw, hz⟩
theorem rvs3L {as : List Addr} {a b c : AV} {x : Array Value} (hx : RVs C as [a, b, c] x.toList) : ∃ w z u, x = #[w, z, u] ∧ RV C as a w ∧ RV C as b z ∧ RV C as c u := by
  obtain ⟨w, r, e, hw, z, r2, rfl, hz, u, r3, rfl, hu, hr⟩ := hx
  cases hr
  exact ⟨w, z, u, Array.toList_inj.mp e, hw, hz, hu⟩
theorem RefA.tup2 {k j : Nat} {p1 p2 pos : Pos} {x1 : Nat} (hk : Wr sc k) (hj : Wr sc j) :
    RefA C n sc (.Tuple [.Name (nm k) p1, .Name (nm j) p2] x1 pos) (aTup2 k j) := by
  intro A env E s hk' as st st' v val Q R F e X hv K
  refine onRef_elim e fun i hi e => onTup_elim e fun xs q e => onPair_elim e fun x y hxy z => ?_
  subst hi hxy
  refine X.tupE q hv fun a items ha hl' hr => ?_
  obtain ⟨u, w, rfl, hu, hw⟩ := rvs2L hr
  refine assign_Tuple_tuple R.handled ⟨_, hl', rfl, 0, rfl⟩ rfl rfl fun h' hs => ?_
  refine assignInOrder_cons (wpAny_assign_Name (storeAny F hk (X.temp hs) hu fun h2 t2 X2 => ?_))
  exact assignInOrder_cons (wpAny_assign_Name (storeAny F hj X2 hw fun h3 t3 X3 => assignInOrder_nil (kA (bnd2 z) K h3 t3 X3)))
theorem RefA.tup3 {k j l : Nat} {p1 p2 p3 pos : Pos} {x1 : Nat} (hk : Wr sc k) (hj : Wr sc j) (hl5 : Wr sc l) :
    RefA C n sc (.Tuple [.Name (nm k) p1, .Name (nm j) p2, .Name (nm l) p3] x1 pos) (aTup3 k j l) := by
  intro A env E s hk' as st st' v val Q R F e X hv K
  refine onRef_elim e fun i hi e => onTup_elim e fun xs q e => on3_elim e fun x y y3 hxy z => ?_
  subst hi hxy
  refine X.tupE q hv fun a items ha hl' hr => ?_
  obtain ⟨u, w, u3, rfl, hu, hw, ht⟩ := rvs3L hr
  refine assign_Tuple_tuple R.handled ⟨_, hl', rfl, 0, rfl⟩ rfl rfl fun h' hs => ?_
  refine assignInOrder_cons (wpAny_assign_Name (storeAny F hk (X.temp hs) hu fun h2 t2 X2 => ?_))
  refine assignInOrder_cons (wpAny_assign_Name (storeAny F hj X2 hw fun h3 t3 X3 => ?_))
  exact assignInOrder_cons (wpAny_assign_Name (storeAny F hl5 X3 ht fun h4 t4 X4 => assignInOrder_nil (kA (bnd3 z) K h4 t4 X4)))
/-! statements -/
noncomputable def cEnd : St → Option (AF × St) := fun s => some (.next, s)
noncomputable def cThen (f g : St → Option (AF × St)) : St → Option (AF × St) := fun s => match f s with
  | some (.next, s1) => g s1
  | r => r
theorem RefSs.nil : RefSs C n sc [] cEnd := by
  intro A env E s hk as st st' v Q R F e X K
  cases e
  exact wpAny_execs_nil (K as s.heap s.toks _ (List.prefix_refl _) X rfl)
theorem RefSs.cons {x : Stmt} {xs : List Stmt} {f g} (hf : RefS C n sc x f) (hg : RefSs C n sc xs g) : RefSs C n sc (x :: xs) (cThen f g) := by
  intro A env E s hk as st st' v Q R F e X K
  unfold cThen at e
  refine wpAny_execs_cons ?_
  cases q : f st with
  | none => rw [q] at e; cases e
  | some p =>
    obtain ⟨fl, s1⟩ := p
    rw [q] at e
    refine hf R F q X fun as1 h1 t1 x p1 X1 hx => ?_
    cases fl with
    | next =>
      have hx' : x = .next := hx
      subst hx'
      exact hg R F e X1 fun as2 h2 t2 y p2 X2 hy => K as2 h2 t2 y (p1.trans p2) X2 hy
    | brk =>
      cases e
      have hx' : x = .brk := hx
      subst hx'
      exact K as1 h1 t1 _ p1 X1 rfl
    | cont =>
      cases e
      have hx' : x = .cont := hx
      subst hx'
      exact K as1 h1 t1 _ p1 X1 rfl
    | ret v =>
      cases e
      obtain ⟨val, rfl, hv⟩ := hx
      exact K as1 h1 t1 _ p1 X1 ⟨val, rfl, hv⟩
theorem RefSs.one {x : Stmt} {f} (hf : RefS C n sc x f) : RefSs C n sc [x] (cThen f cEnd) := RefSs.cons hf RefSs.nil
noncomputable def cRet (f : St → Option (AV × St)) : St → Option (AF × St) := fun s => ob (f s) fun v s1 => some (.ret v, s1)
theorem RefS.ret {e : Expr} {pos : Pos} {f} (hf : RefE C n sc e f) : RefS C n sc (.Return (some e) pos) (cRet f) := by
  intro A env E s hk as st st' v Q R F e' X K
  refine ob_elim e' fun u s1 q z => ?_
  exact wpAny_Return_some (hf R F q X fun as1 h1 t1 x p1 X1 hx => kRetT z K as1 h1 t1 _ p1 X1 ⟨x, rfl, hx⟩)
noncomputable def cExpr (f : St → Option (AV × St)) : St → Option (AF × St) := fun s => ob (f s) fun _ s1 => some (.next, s1)
theorem RefS.expr {e : Expr} {pos : Pos} {f} (hf : RefE C n sc e f) (hi : ∀ env : Env, env.scope = sc.s → interactive env = false) (hs : ∀ env, swapsWith e none pos.line env = pure false := by intro _; rfl) : RefS C n sc (.Expr e pos) (cExpr f) := by
  intro A env E s hk as st st' v Q R F e' X K
  refine ob_elim e' fun u s1 q z => ?_
  exact wpAny_Expr_any (hf R F q X fun as1 h1 t1 x p1 X1 hx => kRetT z K as1 h1 t1 _ p1 X1 rfl) (hi env F.eqv) (hs env)
noncomputable def cAsg (a : AV → St → Option St) (f : St → Option (AV × St)) : St → Option (AF × St) := fun s => ob (f s) fun v s1 => o1 (a v s1) fun s2 => some (.next, s2)
theorem cAsg_eq {a : AV → St → Option St} {f : St → Option (AV × St)} {st st' : St} {v : AF} (e : cAsg a f st = some (v, st')) : ∃ u s1, f st = some (u, s1) ∧ a u s1 = some st' ∧ v = .next :=
  ob_elim e fun u s1 q e => o1_elim e fun s2 q2 z => by cases z; exact ⟨u, s1, q, q2, rfl⟩
theorem RefS.asg {k : Nat} {value : Expr} {p pos : Pos} {f} (hf : RefE C n sc value f) (hk : Wr sc k) (hs : ∀ env, swapsWith value (some (.Name (nm k) p)) pos.line env = pure false := by intro _; rfl) :
    RefS C n sc (.Assign [.Name (nm k) p] value pos) (cAsg (aName k) f) := by
  intro A env E s hk' as st st' v Q R F e X K
  refine ob_elim e fun u s1 q1 e => o1_elim e fun s2 q2 z => ?_
  refine wpAny_Assign_Name (hf R F q1 X fun as1 h1 t1 x p1 X1 hx => ?_) (hs env)
  exact storeAny F hk X1 hx fun h2 t2 X2 => kRetT z K as1 h2 t2 _ p1 (aName_is q2 ▸ X2) rfl
theorem RefS.asgT {elts : List Expr} {x1 : Nat} {value : Expr} {p pos : Pos} {f a} (hf : RefE C n sc value f) (ha : RefA C n sc (.Tuple elts x1 p) a) (hs : ∀ env, swapsWithSole [.Tuple elts x1 p] value pos.line env = pure false := by intro _; rfl)
    (hw : ∀ env, swappedStores [.Tuple elts x1 p] value env = pure none := by intro _; rfl) :
    RefS C n sc (.Assign [.Tuple elts x1 p] value pos) (cAsg a f) := by
  intro A env E s hk' as st st' v Q R F e X K
  refine ob_elim e fun u s1 q1 e => o1_elim e fun s2 q2 z => ?_
  refine Assign_Tuple (hf R F q1 X fun as1 h1 t1 x p1 X1 hx => ?_) (hs env) (hw env)
  exact ha R F q2 X1 hx fun h2 t2 X2 => kRetT z K as1 h2 t2 _ p1 X2 rfl
noncomputable def cIf (t : St → Option (Bool × St)) (f g : St → Option (AF × St)) : St → Option (AF × St) := fun s => ob (t s) fun b s1 => bIf b (f s1) (g s1)
theorem RefS.ite {t : Expr} {x y : List Stmt} {pos : Pos} {ft f g} (ht : RefB C n sc t ft) (hf : RefSs C n sc x f) (hg : RefSs C n sc y g) : RefS C n sc (.If t x y pos) (cIf ft f g) := by
  intro A env E s hk as st st' v Q R F e' X K
  refine ob_elim e' fun b s1 q1 z => ?_
  refine wpAny_If (ht R F q1 X fun as1 h1 t1 x p1 X1 hx => ?_)
  cases hx
  refine bIf_elim z (fun hb z => ?_) fun hb z => ?_
  · subst hb
    exact hf R F z X1 fun as2 h2 t2 y p2 X2 hy => K as2 h2 t2 _ (p1.trans p2) X2 hy
  · subst hb
    exact hg R F z X1 fun as2 h2 t2 y p2 X2 hy => K as2 h2 t2 _ (p1.trans p2) X2 hy
/-! item stores -/
theorem setItemList {A : Around} {E : Value → Shared → Prop} {s : Shared} {l : Addr} {items : Array Value} {m : Nat} {k : Int} {t : Tok} {v : Value} {Q : Unit → Shared → Prop} (hl : IsL s.heap l items m)
    (h0 : 0 ≤ k) (hfit : k < 2 ^ 63) (hn : k < items.size) (hQ : Q () { s with heap := s.heap.update l (Obj.mapSeq (·.setIfInBounds k.toNat v)) }) :
    wpAny (model prog C.w) A (setItem (.ref l) (.int k t) v) Q E s := by
  have hl' := hl.isList
  unfold setItem
  try with_reducible refine wpAny_holding ?_
  first | refine wpAny_bind (wpAny_pure ?_) | skip
  refine wpAny_bind (wpAny_sequenceKey hl'.typeIs (by decide) ?_)
  refine wpAny_bind (wpAny_callSpecial?_slot (name := Str.ofString "__setitem__") hl'.typeIs slot_list_setitem
    (wpAny_call_entry slot_list_setitem hl'.typeIs entry_list_setitem ?_ (args_list_setitem _ _ _)))
  show wpAny _ _ (Builtin.List.listSubscript? (.int k t) >>= _) _ _ s
  refine wpAny_bind (wpAny_listSubscript_int (fitsIndex_of h0 hfit) ?_)
  clear hfit
  obtain ⟨j, rfl⟩ := Int.eq_ofNat_of_zero_le h0
  have hj : j < items.size := by omega
  have hx' : items[j]? = some items[j] := Array.getElem?_eq_getElem hj
  show wpAny _ _ ((seqItemAt l j >>= fun r => pure (r.map (j, ·))) >>= _) _ _ s
  refine wpAny_bind (wpAny_bind (wpAny_seqItemAt hl rfl (wpAny_pure ?_)))
  rw [hx']
  show wpAny _ _ (setSeqItemAt l j v >>= _) _ _ s
  refine wpAny_bind (wpAny_setSeqItemAt hl rfl ?_)
  first
    | exact wpAny_bind (wpAny_pure (wpAny_pure ⟨.none, rfl, wpAny_pure hQ⟩))
    | exact wpAny_pure ⟨.none, rfl, wpAny_pure hQ⟩
theorem any_of_valueAt_none {K : Type} [DecidableEq K] {kvs : List (K × Value)} {k : K} (h : valueAt kvs k = none) : (kvs.any fun kv => decide (kv.1 = k)) = false := by
  unfold valueAt at h
  rw [Option.map_eq_none_iff, List.find?_eq_none] at h
  rw [List.any_eq_false]
  exact h
theorem dictSetAt {K : Type} [DecidableEq K] {knd : KeyKind prog C.w K} {A : Around} {E : Value → Shared → Prop} {s : Shared} {d : Addr} {kvs : List (K × Value)} {ep : Nat} {k : K} {key v : Value} {Q : Unit → Shared → Prop}
    (hkey : knd.is k key = true) (hm : s.heap.DictAt knd d kvs ep)
    (hQ : ∀ h' o, h'.DictAt knd d (stored kvs k v) (match valueAt kvs k with | some _ => ep | none => ep + 1) → h'.get? d = some o → Heap.SameBut d s.heap h' → Q () { s with heap := h', toks := s.toks + 1 })
    (hsz : kvs.length ≤ sizeLine) : wpAny (model prog C.w) A (dictSet d key v) Q E s := by
  obtain ⟨o, es, ho, hc, hd, hk, hp, hn⟩ := hm
  have hes : es.size ≤ sizeLine := by
    have e1 := hp.length
    have e2 : es.toList.length = es.size := by simp
    omega
  unfold dictSet
  try with_reducible refine wpAny_holding ?_
  refine wpAny_bind (knd.pyHash hkey ?_)
  unfold dictSetHashed
  try with_reducible refine wpAny_holding ?_
  refine wpAny_bind (wpAny_dictFind_of (s := { s with toks := s.toks + 1 }) hkey ho hd hk ?_)
  have hidx : (es.findIdx? fun e => knd.is k e.key) = kvs.findIdx? fun kv => decide (kv.1 = k) := by
    rw [← hp.findIdx k]; obtain ⟨l⟩ := es; simp
  cases hi : es.findIdx? fun e => knd.is k e.key with
  | some i =>
    have hany := any_of_findIdx_some (hidx ▸ hi)
    have hva : ∃ w, valueAt kvs k = some w := by
      cases q : valueAt kvs k with
      | some w => exact ⟨w, rfl⟩
      | none => rw [any_of_valueAt_none q] at hany; cases hany
    obtain ⟨w, hw⟩ := hva
    rw [hw] at hQ
    refine wpAny_bind (wpAny_rule (wpAny_bind (wpAny_updateDict (s := { s with toks := s.toks + 1 }) ho hd (wpAny_point (hQ _ _ ⟨_, _, Heap.get?_update_self _ ho (Obj.isFreed_of_dict (Obj.data_mapDict hd _)),
      hc.mapDict _, Obj.data_mapDict hd _, hk.modify _ _, ?_, ?_⟩ (Heap.get?_update_self _ ho (Obj.isFreed_of_dict (Obj.data_mapDict hd _))) (Heap.SameBut.update ..))))))
    · rw [stored, if_pos hany]
      have hl : (es.toList.findIdx? fun e => knd.is k e.key) = some i := by rw [← hi]; obtain ⟨l⟩ := es; simp
      have := hp.modify hn hl v
      obtain ⟨l⟩ := es
      simpa using this
    · rw [stored, if_pos hany, keys_map_store]; exact hn
  | none =>
    have hnot : k ∉ kvs.map (·.1) := not_mem_of_findIdx_none (hidx ▸ hi)
    have hany : ¬ (kvs.any fun kv => decide (kv.1 = k)) = true := by
      rw [List.any_eq_true]; rintro ⟨kv, hkv, he⟩
      exact hnot (List.mem_map.mpr ⟨kv, hkv, of_decide_eq_true he⟩)
    have hva : valueAt kvs k = none := by
      unfold valueAt
      rw [Option.map_eq_none_iff, List.find?_eq_none]
      intro kv hkv he
      exact hnot (List.mem_map.mpr ⟨kv, hkv, of_decide_eq_true he⟩)
    rw [hva] at hQ
    refine wpAny_bind (wpAny_rule (wpAny_updateDictKeys (hz := hes) (s := { s with toks := s.toks + 1 }) ho hd (hQ _ _ ⟨_, _, Heap.get?_update_self _ ho (Obj.isFreed_of_dict (Obj.data_mapDictKeys hd _)),
      hc.mapDictKeys _, Obj.data_mapDictKeys hd _, hk.push hkey _, ?_, ?_⟩ (Heap.get?_update_self _ ho (Obj.isFreed_of_dict (Obj.data_mapDictKeys hd _))) (Heap.SameBut.update ..))))
    · rw [stored, if_neg hany]
      have := hp.append hkey (knd.hash k) v
      obtain ⟨l⟩ := es
      simpa using this
    · rw [stored, if_neg hany, List.map_append, List.nodup_append]
      refine ⟨hn, by simp, ?_⟩
      intro a ha b hb
      simp only [List.map_cons, List.map_nil, List.mem_singleton] at hb
      subst hb
      exact fun e => hnot (e ▸ ha)
theorem setItemDict {K : Type} [DecidableEq K] {knd : KeyKind prog C.w K} {A : Around} {E : Value → Shared → Prop} {s : Shared} {d : Addr} {kvs : List (K × Value)} {ep : Nat} {k : K} {key v : Value} {Q : Unit → Shared → Prop}
    (hkey : knd.is k key = true) (hm : s.heap.DictAt knd d kvs ep)
    (hQ : ∀ h' o, h'.DictAt knd d (stored kvs k v) (match valueAt kvs k with | some _ => ep | none => ep + 1) → h'.get? d = some o → Heap.SameBut d s.heap h' → Q () { s with heap := h', toks := s.toks + 1 })
    (hsz : kvs.length ≤ sizeLine) : wpAny (model prog C.w) A (setItem (.ref d) key v) Q E s := by
  unfold setItem
  try with_reducible refine wpAny_holding ?_
  refine wpAny_bind (wpAny_sequenceKey hm.dictOf.typeIs (by decide) ?_)
  refine wpAny_bind (wpAny_callSpecial?_slot (name := Str.ofString "__setitem__") hm.dictOf.typeIs slot_dict_setitem
    (wpAny_call_entry slot_dict_setitem hm.dictOf.typeIs entry_dict_setitem ?_ (args_dict_setitem _ _ _)))
  show wpAny _ _ (Builtin.Dict.notOrdered "__setitem__" ⟨[.ref d, key, v], []⟩ >>= _) _ _ s
  refine wpAny_bind (wpAny_notOrdered_dict hm.dictOf.typeIs ?_)
  show wpAny _ _ (dictSet d key v >>= _) _ _ s
  exact wpAny_bind (dictSetAt (hsz := hsz) hkey hm fun h' o hm' ho hs' => wpAny_pure ⟨.none, rfl, wpAny_pure (hQ h' o hm' ho hs')⟩)
noncomputable def putL : List AV → Nat → AV → List AV
  | [], _, _ => []
  | a :: l, i, v => match Nat.beq i 0 with
    | true => v :: l
    | false => a :: putL l (i - 1) v
theorem putL_eq (l : List AV) : ∀ (i : Nat) (v : AV), putL l i v = l.set i v := by
  induction l with
  | nil => intro _ _; rfl
  | cons a l ih =>
    intro i v
    cases i with
    | zero => rfl
    | succ i =>
      rw [putL, Tr.beq_eq]
      simp [ih i v]
noncomputable def oSet (o i v : AV) (os : Store) : Option Store := onRef o fun j => alt
  (onList (os.get j) fun xs => onInt i fun z => onNat z fun m => bT (Nat.blt m xs.length) <| bT (Nat.ble xs.length 2000) <| os.set j (.list (putL xs m v))) (alt
  (onDI (os.get j) fun es ep => onInt i fun m => bT (Nat.ble es.length 2000) <| os.set j (.dictI (dSet eqI es m v) (match dGet eqI es m with | some _ => ep | none => Nat.succ ep)))
  (onDS (os.get j) fun es => onStr i fun m => bT (Nat.ble es.length 2000) <| os.set j (.dictS (dSet eqL es m v))))
theorem epoch_is {as : List Addr} {es : List (Int × AV)} {kvs : List (Int × Value)} {m : Int} {ep : Nat} (hkv : KvOk C as (fun k : Int => k) es kvs) :
    (match valueAt kvs m with | some _ => ep | none => ep + 1) = (match dGet eqI es m with | some _ => ep | none => Nat.succ ep) := by
  cases q3 : dGet eqI es m with
  | some w =>
    obtain ⟨val, hv1, _⟩ := dGet_some eqI_dec hkv q3
    rw [show valueAt kvs m = some val from hv1]
  | none => rw [show valueAt kvs m = none from dGet_none eqI_dec hkv q3]
theorem set_le {m a b : Nat} (q1 : Nat.blt m a = true) (q2 : Nat.ble a 2000 = true) (h : b = a) : ((m : Nat) : Int) < 2 ^ 63 ∧ ((m : Nat) : Int) < b := by
  rw [Store.blt_eq] at q1
  have b1 : m < a := of_decide_eq_true q1
  have b2 := ble_iff.mp q2
  omega
theorem len_kv {m n : Nat} (h : Nat.ble n 2000 = true) (q : m = n) : m ≤ sizeLine := by
  have := ble_iff.mp h
  rw [line_is]; omega
theorem oSet_ok {A : Around} {E : Value → Shared → Prop} {s : Shared} {hk : Heap} {as : List Addr} {st : St} {L : Fm} {o i v : AV} {x y z : Value} {os' : Store} {Q : Unit → Shared → Prop}
    (e : oSet o i v st.os = some os') (X : Rel C hk as st L s.heap) (hx : RV C as o x) (hy : RV C as i y) (hz : RV C as v z)
    (K : ∀ h' tk, Rel C hk as ⟨st.loc, os'⟩ L h' → Q () { s with heap := h', toks := tk }) : wpAny (model prog C.w) A (setItem x y z) Q E s := by
  refine onRef_elim e fun j hj e1 => ?_
  subst hj
  refine alt_elim e1 (fun e => onList_elim e fun xs q e => onInt_elim e fun m0 hi e => onNat_elim e fun m hm e => bT_elim e fun q1 e => bT_elim e fun q2 z => ?_)
    fun e => alt_elim e (fun e => onDI_elim e fun es ep q e => onInt_elim e fun m hi e => bT_elim e fun q2 z => ?_) fun e => onDS_elim e fun es q e => onStr_elim e fun m hi e => bT_elim e fun q2 z => ?_
  · subst hi hm
    refine rvInt hy fun t => X.listE q hx fun a items ep ha hl hr => ?_
    have b1 := set_le q1 q2 (show items.size = xs.length from hr.length)
    refine setItemList hl (Int.natCast_nonneg m) b1.1 b1.2 ?_
    refine K _ s.toks (X.set z ha (Heap.SameBut.update ..).extBut (hl.update _) ⟨_, _, hl.update _, ?_⟩ rfl ⟨_, q, rfl⟩)
    rw [putL_eq]
    show RVs C as (xs.set m v) (items.setIfInBounds m _).toList
    rw [Array.toList_setIfInBounds]
    exact hr.set m hz
  · subst hi
    refine rvInt hy fun t => X.dictIE q hx fun a kvs ha hd hkv => ?_
    have hn := dSet_ok eqI_dec hkv hd.nodup m hz
    exact setItemDict (isInt_self m t) hd (fun h' o hd' ho hs => K h' _ (X.set z ha hs.extBut ho ⟨X.loI q ha, _, epoch_is hkv ▸ hd', hn.keys, hn.vals⟩ rfl ⟨_, q, rfl⟩)) (len_kv q2 hkv.length)
  · subst hi
    refine rvStr hy fun t => X.dictSE q hx fun a kvs ha hd hkv => ?_
    obtain ⟨ep, hd⟩ := hd.dictAt
    have hn := dSet_ok eqL_dec hkv hd.nodup m hz
    exact setItemDict (isStr_self _ t) hd (fun h' o hd' ho hs => K h' _ (X.set z ha hs.extBut ho ⟨X.loS q ha, _, hd'.dictOf, hn.keys, hn.vals⟩ rfl ⟨_, q, rfl⟩)) (len_kv q2 hkv.length)
noncomputable def cPut (f g h : St → Option (AV × St)) : St → Option (AF × St) := fun s => ob (f s) fun v s1 => ob (g s1) fun o s2 => ob (h s2) fun i s3 => o1 (oSet o i v s3.os) fun os => mkS .next s3 os
theorem RefS.put {o i value : Expr} {p pos : Pos} {f g h} (hf : RefE C n sc value f) (hg : RefE C n sc o g) (hh : RefE C n sc i h) (hs : ∀ env, swapsWith value (some (.Subscript o i p)) pos.line env = pure false := by intro _; rfl) :
    RefS C n sc (.Assign [.Subscript o i p] value pos) (cPut f g h) := by
  intro A env E s hk as st st' v Q R F e X K
  refine ob_elim e fun a s1 q1 e => ob_elim e fun b s2 q2 e => ob_elim e fun c s3 q3 e => o1_elim e fun os q4 z => ?_
  refine wpAny_Assign_Subscript (hf R F q1 X fun as1 h1 t1 x p1 X1 hx => hg R F q2 X1 fun as2 h2 t2 y p2 X2 hy => hh R F q3 X2 fun as3 h3 t3 w p3 X3 hz => ?_) (hs env)
  exact oSet_ok q4 X3 (hy.mono p3) hz (hx.mono (p2.trans p3)) fun h4 t4 X4 => kRetT z K as3 h4 t4 _ (p1.trans (p2.trans p3)) X4 rfl
end
end Mine
end
end
section
set_option maxRecDepth 100000
set_option linter.unusedVariables false
set_option linter.unusedSectionVars false
set_option autoImplicit false
set_option genSizeOf false
set_option genInjectivity false
noncomputable section
namespace Mine
open PySem PySem.W PyProof.Rows
section
variable {C : Cx} {n : Nat} {sc : Sc}
/-! things beside the store and the frame -/
structure Apart (hk h : Heap) (as : List Addr) (f : Fm) (b : Addr) : Prop where
  nas : b ∉ as
  nL : b ≠ f.L
  nc : ∀ x ca, f.cl.lookup x = some ca → b ≠ ca
  nk : hk.get? b = none
  live : ∃ o, h.get? b = some o
theorem Apart.fresh {hk h h' : Heap} {as : List Addr} {st : St} {f : Fm} {b : Addr} {o : Obj} (X : Rel C hk as st f h) (e : h.get? b = none) (e' : h'.get? b = some o) : Apart hk h' as f b where
  nas := X.S.notIn e
  nL := fun q => by obtain ⟨o, e2⟩ := X.liveL; rw [← q, e] at e2; cases e2
  nc := fun x ca q q' => by obtain ⟨o, e2⟩ := X.clive' q; rw [← q', e] at e2; cases e2
  nk := X.S.notK e
  live := ⟨o, e'⟩
theorem Apart.at {hk h h' : Heap} {as : List Addr} {f : Fm} {b : Addr} (P : Apart hk h as f b) (hs : ∀ o, h.get? b = some o → ∃ o', h'.get? b = some o') : Apart hk h' as f b :=
  ⟨P.nas, P.nL, P.nc, P.nk, let ⟨o, e⟩ := P.live; hs o e⟩
/-- things beside it changed -/
theorem Rel.touch {hk h h' : Heap} {as : List Addr} {st : St} {f : Fm} {fp : List Addr} (X : Rel C hk as st f h) (P : ∀ b ∈ fp, Apart hk h as f b) (hs : ∀ b o, b ∉ fp → h.get? b = some o → h'.get? b = some o) : Rel C hk as st f h' := by
  refine X.move ⟨X.S.base, fun b o e => hs b o (fun q => by rw [(P b q).nk] at e; cases e) (X.S.keep b o e), X.S.off, X.S.nodup, X.S.size, fun a ha => ?_, fun i o e => ?_, fun i d i1 i2 i3 e => (X.S.wht i d i1 i2 i3 e).at (List.prefix_refl _) (fun _ x _ => x) fun x j ea _ o => hs x o fun q => (P x q).nas (List.mem_of_getElem? ea)⟩ (List.prefix_refl _) (fun o e => hs _ o (fun q => (P _ q).nL rfl) e) X.notL
    fun x ca q => ⟨fun o e => hs ca o (fun q' => (P _ q').nc x ca q rfl) e, X.cnot x ca q⟩
  · obtain ⟨o, e⟩ := X.S.live a ha
    exact ⟨o, hs a o (fun q => (P a q).nas ha) e⟩
  · obtain ⟨a, ea, r⟩ := X.S.obj i o e
    exact ⟨a, ea, r.at fun ob q => hs a ob (fun q => (P a q).nas (List.mem_of_getElem? ea)) q⟩
/-- an object that stands already becomes the store's -/
theorem Rel.adopt {hk h : Heap} {as : List Addr} {st : St} {f : Fm} {a : Addr} {o : AO} {v : AV} {os' : Store} (X : Rel C hk as st f h) (P : Apart hk h as f a) (e : st.os.new o = some (v, os')) (r : Real C (as ++ [a]) h a o) (hpl : o.plain = true) :
    Rel C hk (as ++ [a]) ⟨st.loc, os'⟩ f h ∧ RV C (as ++ [a]) v (.ref a) := by
  obtain ⟨rfl, hn, hg, ho⟩ := Store.new_eq e
  have pre : as <+: as ++ [a] := ⟨[a], rfl⟩
  have hat : (as ++ [a])[st.os.n]? = some a := by rw [← X.S.size]; simp
  refine ⟨X.move ⟨X.S.base, X.S.keep, ?_, ?_, ?_, ?_, ?_, ?_⟩ pre (fun _ e => e) ?_ fun x ca q => ⟨fun _ e => e, ?_⟩, a, hat, rfl⟩
  · intro x hx
    rcases List.mem_append.mp hx with hx | hx
    · exact X.S.off x hx
    · rw [List.mem_singleton.mp hx]; exact P.nk
  · rw [List.nodup_append]
    refine ⟨X.S.nodup, by simp, ?_⟩
    intro x hx y hy
    rw [List.mem_singleton.mp hy]
    intro q
    subst q
    exact P.nas hx
  · rw [hn, ← X.S.size]; simp
  · intro x hx
    rcases List.mem_append.mp hx with hx | hx
    · exact X.S.live x hx
    · rw [List.mem_singleton.mp hx]; exact P.live
  · intro i o' e'
    by_cases hi : i = st.os.n
    · subst hi
      rw [hg] at e'
      cases e'
      exact ⟨a, hat, r⟩
    · rw [ho i hi] at e'
      obtain ⟨x, ex, rx⟩ := X.S.obj i o' e'
      refine ⟨x, ?_, rx.mono pre⟩
      rw [List.getElem?_append_left (List.getElem?_eq_some_iff.mp ex).1]; exact ex
  · intro i d i1 i2 i3 e'
    have hi : i ≠ st.os.n := fun q => by rw [q, hg] at e'; cases e'; cases hpl
    rw [ho i hi] at e'
    refine (X.S.wht i d i1 i2 i3 e').at pre (fun j x y => ?_) fun x j _ _ o e => e
    rw [ho j fun q => y (by rw [q, ← X.S.size]; simp)]; exact x
  · intro q
    rcases List.mem_append.mp q with q | q
    · exact X.notL q
    · exact P.nL (List.mem_singleton.mp q).symm
  · intro q'
    rcases List.mem_append.mp q' with q' | q'
    · exact X.cnot x ca q q'
    · exact P.nc x ca q (List.mem_singleton.mp q').symm
theorem fresh_size (h : Heap) : h.get? h.objs.size = none := by
  cases q : h.get? h.objs.size with
  | none => rfl
  | some o => exact absurd (Heap.lt_size q) (Nat.lt_irrefl _)
/-! iterators -/
inductive AI where
  | list (i p : Nat)
  | enum (i p : Nat)
  | range (x : Int) (left : Nat)
  | dict (i p n ep : Nat)
  | byt (b : List Nat) (p : Nat)
  | txt (s : List Nat) (p : Nat)
noncomputable def ItAt (C : Cx) (as : List Addr) : AI → Addr → List Addr → Heap → Prop
  | .list i p, it, fp, h => fp = [it] ∧ ∃ l, as[i]? = some l ∧ h.IsListIter it l p
  | .enum i p, it, fp, h => ∃ e l old, fp = [it, e] ∧ it ≠ e ∧ as[i]? = some l ∧ IsEnum h it e p old ∧ h.IsListIter e l p
  | .range x left, it, fp, h => fp = [it] ∧ IsRangeIter h it x left 1
  | .dict i p n ep, it, fp, h => fp = [it] ∧ ∃ d, as[i]? = some d ∧ h.IsKeyIter it d p n ep
  | .byt b p, it, fp, h => fp = [it] ∧ ∃ t, KBw.IsBytesIter h it (b.map UInt8.ofNat).toArray t p
  | .txt s p, it, fp, h => fp = [it] ∧ ∃ t, h.IsStrIter it "str_ascii_iterator" ⟨s.toArray⟩ t p
theorem pre_get {as as' : List Addr} (p : as <+: as') {i : Nat} {a : Addr} (h : as[i]? = some a) : as'[i]? = some a := by
  obtain ⟨t, rfl⟩ := p
  rw [List.getElem?_append_left (List.getElem?_eq_some_iff.mp h).1]; exact h
theorem ItAt.at {as as' : List Addr} {h h' : Heap} (p : as <+: as') {ai : AI} {it : Addr} {fp : List Addr} (I : ItAt C as ai it fp h) (hs : ∀ b ∈ fp, ∀ o, h.get? b = some o → h'.get? b = some o) : ItAt C as' ai it fp h' := by
  cases ai with
  | list i q => exact ⟨I.1, I.2.elim fun l z => ⟨l, pre_get p z.1, z.2.elim fun o y => ⟨o, hs _ (I.1 ▸ .head _) _ y.1, y.2⟩⟩⟩
  | enum i q =>
    obtain ⟨e, l, old, hf, ne, a, b, o, c, d⟩ := I
    exact ⟨e, l, old, hf, ne, pre_get p a, hs _ (hf ▸ .head _) _ b, o, hs _ (hf ▸ .tail _ (.head _)) _ c, d⟩
  | range x q => exact ⟨I.1, hs _ (I.1 ▸ .head _) _ I.2⟩
  | dict i q m ep => exact ⟨I.1, I.2.elim fun l z => ⟨l, pre_get p z.1, z.2.elim fun o y => ⟨o, hs _ (I.1 ▸ .head _) _ y.1, y.2⟩⟩⟩
  | byt b q => exact ⟨I.1, I.2.elim fun l z => ⟨l, z.elim fun o y => ⟨o, hs _ (I.1 ▸ .head _) _ y.1, y.2⟩⟩⟩
  | txt b q => exact ⟨I.1, I.2.elim fun l z => ⟨l, z.elim fun o y => ⟨o, hs _ (I.1 ▸ .head _) _ y.1, y.2⟩⟩⟩
theorem ItAt.self {as : List Addr} {h : Heap} {ai : AI} {it : Addr} {fp : List Addr} (I : ItAt C as ai it fp h) : it ∈ fp := by
  cases ai with
  | enum i q => exact I.elim fun e z => z.elim fun l z => z.elim fun old z => z.1 ▸ .head _
  | _ => exact I.1 ▸ .head _
/-- a turn that kept all beside the store and the frame -/
theorem turn {hk h h' : Heap} {as as' : List Addr} {st st' : St} {f : Fm} {ai : AI} {it : Addr} {fp : List Addr} (X : Rel C hk as st f h) (I : ItAt C as ai it fp h) (P : ∀ b ∈ fp, Apart hk h as f b) (hn : (f.cl.map (·.1)).Nodup) (p : as <+: as')
    (Y : Rel C (Rel.all as f h) as' st' f h') : Rel C hk as' st' f h' ∧ ItAt C as' ai it fp h' ∧ ∀ b ∈ fp, Apart hk h' as' f b := by
  have nfa : ∀ b ∈ fp, b ∉ Rel.fa f := fun b hb q => by
    rcases Rel.fa_mem q with q | ⟨_, q⟩
    · exact (P b hb).nL q
    · obtain ⟨x, hx⟩ := lookup_nodup hn q
      exact (P b hb).nc x b hx rfl
  have kp : ∀ b ∈ fp, ∀ o, h.get? b = some o → h'.get? b = some o := fun b hb o e => Y.S.keep b o (Rel.allGet e (P b hb).nas (nfa b hb))
  refine ⟨X.back hn Y, I.at p kp, fun b hb => ⟨fun q => ?_, (P b hb).nL, (P b hb).nc, (P b hb).nk, ?_⟩⟩
  · obtain ⟨o, e⟩ := (P b hb).live
    have h1 := Rel.allGet e (P b hb).nas (nfa b hb)
    rw [Y.S.off b q] at h1; cases h1
  · obtain ⟨o, e⟩ := (P b hb).live
    exact ⟨o, kp b hb o e⟩
inductive Tg : Expr → Bool → Prop
  | name (x : Str) (p : Pos) : Tg (.Name x p) false
  | tup (es : List Expr) (k : Nat) (p : Pos) : Tg (.Tuple es k p) true
noncomputable def nthK : List (Int × AV) → Nat → Option Int
  | [], _ => none
  | (a, _) :: l, i => match Nat.beq i 0 with
    | true => some a
    | false => nthK l (i - 1)
theorem nthK_eq : ∀ (l : List (Int × AV)) (i : Nat), nthK l i = l[i]?.map (·.1)
  | [], _ => by simp [nthK]
  | (a, _) :: l, 0 => by simp [nthK]
  | (a, _) :: l, i + 1 => by
    unfold nthK
    rw [Tr.beq_eq]
    simp [nthK_eq l i]
noncomputable def oN {β : Type} (m : Nat) (k : Nat → Option β) (y : Option β) : Option β := match m with
  | 0 => y
  | j + 1 => k j
theorem oN_elim {β : Type} {m : Nat} {k : Nat → Option β} {y : Option β} {r : β} {P : Prop} (e : oN m k y = some r) (h0 : m = 0 → y = some r → P) (h1 : ∀ j, m = j + 1 → k j = some r → P) : P := by
  cases m with
  | zero => exact h0 rfl e
  | succ j => exact h1 j rfl e
noncomputable def nextA (tup : Bool) (ai : AI) (os : Store) : Option (Option (AV × AI × Store)) := match ai with
  | .list i p => onList (os.get i) fun xs => oC (nth xs p) (fun v => some (some (v, .list i (Nat.succ p), os))) (some none)
  | .enum i p => bT tup <| onList (os.get i) fun xs => oC (nth xs p) (fun v => ob (os.new (.tup [.int (.ofNat p), v])) fun t os' => some (some (t, .enum i (Nat.succ p), os'))) (some none)
  | .range x left => bT (!tup) <| oN left (fun k => some (some (.int x, .range (x + 1) k, os))) (some none)
  | .dict i p n ep => bT (!tup) <| onDI (os.get i) fun es ep' => bT (Nat.beq ep' ep) <| bT (Nat.beq es.length n) <| oC (nthK es p) (fun v => some (some (.int v, .dict i (Nat.succ p) n ep, os))) (some none)
  | .byt b p => bT (!tup) <| oC (nthC b p) (fun v => some (some (.int (.ofNat (v % 256)), .byt b (Nat.succ p), os))) (some none)
  | .txt s p => bT (!tup) <| oC (nthC s p) (fun c => some (some (.str [c], .txt s (Nat.succ p), os))) (some none)
theorem letGo_plain {A : Around} {E : Value → Shared → Prop} {s : Shared} {tg : Expr} {it : Addr} {v : Value} {o : Obj} {T : String} {Q : Unit → Shared → Prop} (ho : s.heap.get? it = some o) (hc : o.cls = .type T)
    (hT : ["enumerate", "zip", "dict_itemiterator", "dict_reverseitemiterator", "odict_iterator", "itertools.zip_longest", "itertools.pairwise"].contains T = false) (hQ : Q () s) (ht : ∃ b, Tg tg b) : wpAny (model prog C.w) A (letOwnedTupleGo tg (.ref it) v) Q E s := by
  obtain ⟨b, t⟩ := ht
  cases t with
  | name x p => exact wpAny_pure hQ
  | tup es k p =>
    unfold letOwnedTupleGo
    cases v <;> try exact wpAny_pure hQ
    rename_i a
    refine wpAny_bind (wpAny_load ho ?_)
    rw [hc]
    cases o.data <;> try exact wpAny_pure hQ
    dsimp only
    rw [hT, Bool.false_and]
    exact wpAny_pure hQ
theorem int_of {k : Int} {v : Value} (h : (intKind prog C.w).is k v = true) : ∃ t, v = .int k t := by
  have h' : Value.isInt k v = true := h
  unfold Value.isInt at h'
  split at h'
  · rename_i i t
    exact ⟨t, by rw [show i = k by simpa using h']⟩
  · cases h'
theorem Tg.name_of {tg : Expr} {tup : Bool} (ht : Tg tg tup) (q : (!tup) = true) : ∃ x p, tg = .Name x p := by
  cases ht with
  | name x p => exact ⟨x, p, rfl⟩
  | tup es k p => cases q
theorem Tg.tup_of {tg : Expr} {tup : Bool} (ht : Tg tg tup) (q : tup = true) : ∃ es k p, tg = .Tuple es k p := by
  cases ht with
  | name x p => cases q
  | tup es k p => exact ⟨es, k, p, rfl⟩
/-- the next of an iterator, and what is done with it -/
noncomputable def NextG (C : Cx) (A : Around) (E : Value → Shared → Prop) (tg : Expr) (it : Addr) (Qn : Shared → Prop) (Qs : Value → Shared → Prop) (s : Shared) : Prop :=
  wpAny (model prog C.w) A (pyNext (.ref it)) (fun r s1 => match r with
    | none => Qn s1
    | some v => wpAny (model prog C.w) A (letOwnedTupleGo tg (.ref it) v) (fun _ s2 => Qs v s2) E s1) E s
structure NextK (C : Cx) (hk : Heap) (as : List Addr) (st : St) (f : Fm) (it : Addr) (fp : List Addr) (s : Shared) (Qn : Shared → Prop) (Qs : Value → Shared → Prop) (r : Option (AV × AI × Store)) : Prop where
  k0 : r = none → ∀ h' tk, Rel C hk as st f h' → Qn { s with heap := h', toks := tk }
  k1 : ∀ v ai' os', r = some (v, ai', os') → ∀ as' h' tk val, as <+: as' → Rel C hk as' ⟨st.loc, os'⟩ f h' → ItAt C as' ai' it fp h' → (∀ b ∈ fp, Apart hk h' as' f b) → RV C as' v val → Qs val { s with heap := h', toks := tk }
section
variable {tg : Expr} {tup : Bool} {A : Around} {E : Value → Shared → Prop} {s : Shared} {hk : Heap} {as : List Addr} {st : St} {f : Fm} {it : Addr} {fp : List Addr} {r : Option (AV × AI × Store)} {Qn : Shared → Prop} {Qs : Value → Shared → Prop}
theorem one_touch {h h' : Heap} (X : Rel C hk as st f h) (P : ∀ b ∈ fp, Apart hk h as f b) (hf : fp = [it]) (hx : Heap.ExtBut it h h') : Rel C hk as st f h' :=
  X.touch P fun b o hb e => hx b o (fun q => hb (by rw [hf, q]; exact .head _)) e
theorem one_apart {h h' : Heap} {o : Obj} (P : ∀ b ∈ fp, Apart hk h as f b) (hf : fp = [it]) (ho : h'.get? it = some o) : ∀ b ∈ fp, Apart hk h' as f b := fun b hb => by
  have hb' := hb
  rw [hf] at hb'
  cases List.mem_singleton.mp hb'
  exact (P _ hb).at fun _ _ => ⟨_, ho⟩
theorem Rel.listO {h : Heap} (X : Rel C hk as st f h) {i : Nat} {l : Addr} {xs : List AV} (q : st.os.get i = some (.list xs)) (ha : as[i]? = some l) : ∃ items m, IsL h l items m ∧ RVs C as xs items.toList := by
  obtain ⟨l', ha', items, m, hl, hr⟩ := X.S.obj i _ q
  rw [ha] at ha'
  cases ha'
  exact ⟨items, m, hl, hr⟩
theorem none_end {α β : Type} {xs : List α} {ys : Array β} {p : Nat} (q : xs[p]? = none) (h : ys.toList.length = xs.length) : ys[p]? = none := by
  simp at q h ⊢; omega
theorem some_end {α : Type} {xs : Array α} {p : Nat} {v : α} (h : xs.toList[p]? = some v) : xs[p]? = some v := by simpa using h
theorem next_list (ht : Tg tg tup) (hh : A.handled = none) {i p : Nat} (X : Rel C hk as st f s.heap) (I : ItAt C as (.list i p) it fp s.heap) (P : ∀ b ∈ fp, Apart hk s.heap as f b) (e : nextA tup (.list i p) st.os = some r)
    (K : NextK C hk as st f it fp s Qn Qs r) : NextG C A E tg it Qn Qs s := by
  obtain ⟨hf, l, ha, hit⟩ := I
  refine onList_elim e fun xs q e => ?_
  obtain ⟨items, m, hl, hr⟩ := X.listO q ha
  refine oC_elim e (fun v q2 z => ?_) fun q2 z => ?_
  · rw [nth_eq] at q2
    obtain ⟨val, hv, hrv⟩ := hr.get q2
    refine wpAny_pyNext_list_item hit hl.isList (some_end hv) fun h' hit' hs => ?_
    obtain ⟨o, ho, hc, hd⟩ := id hit'
    exact letGo_plain ho hc (by decide) (K.k1 _ _ _ (Option.some.inj z).symm as h' s.toks val (List.prefix_refl _) (one_touch X P hf hs.extBut) ⟨hf, l, ha, hit'⟩ (one_apart P hf ho) hrv) ⟨_, ht⟩
  · rw [nth_eq] at q2
    exact wpAny_pyNext_list_end hh hit hl.isList (none_end q2 hr.length) fun h' hs => K.k0 (Option.some.inj z).symm h' s.toks (one_touch X P hf hs)
theorem enum_apart2 {h h1 h2 : Heap} {e1 : Addr} {oe o1 : Obj} (P : ∀ b ∈ fp, Apart hk h as f b) (hf : fp = [it, e1]) (he : h2.get? it = some o1) (hoe : h2.get? e1 = some oe) : ∀ b ∈ fp, Apart hk h2 (as ++ [h.objs.size]) f b := by
  intro b hb
  have hb' := hb
  rw [hf] at hb'
  have lv : ∃ o, h2.get? b = some o := by
    rcases List.mem_cons.mp hb' with q | q
    · exact ⟨_, q ▸ he⟩
    · exact ⟨oe, (List.mem_singleton.mp q) ▸ hoe⟩
  refine ⟨fun q => ?_, (P b hb).nL, (P b hb).nc, (P b hb).nk, lv⟩
  rcases List.mem_append.mp q with q | q
  · exact (P b hb).nas q
  · obtain ⟨o, eo⟩ := (P b hb).live
    rw [List.mem_singleton.mp q, fresh_size] at eo; cases eo
theorem next_enum (ht : Tg tg tup) (hh : A.handled = none) {i p : Nat} (X : Rel C hk as st f s.heap) (I : ItAt C as (.enum i p) it fp s.heap) (P : ∀ b ∈ fp, Apart hk s.heap as f b) (e : nextA tup (.enum i p) st.os = some r)
    (K : NextK C hk as st f it fp s Qn Qs r) : NextG C A E tg it Qn Qs s := by
  obtain ⟨e1, l, old, hf, hne, ha, hen, hit⟩ := I
  refine bT_elim e fun qt e => onList_elim e fun xs q e => ?_
  obtain ⟨items, m, hl, hr⟩ := X.listO q ha
  have it_in : it ∈ fp := by rw [hf]; exact .head _
  have e_in : e1 ∈ fp := by rw [hf]; exact .tail _ (.head _)
  refine oC_elim e (fun v q2 e => ob_elim e fun t os' q3 z => ?_) fun q2 z => ?_
  · rw [nth_eq] at q2
    obtain ⟨val, hv, hrv⟩ := hr.get q2
    obtain ⟨es, k, pp, rfl⟩ := ht.tup_of qt
    refine wpAny_pyNext_enum_item hen hit hl.isList (some_end hv) hne fun h1 heo hit1 ht1 hz hk1 => ?_
    refine wpAny_letOwnedTupleGo_enum heo fun h2 he2 hs2 => ?_
    replace hs2 : Heap.SameBut it h1 h2 := hs2
    have hitn : it ≠ s.heap.objs.size := fun q => by
      obtain ⟨o, eo⟩ := (P it it_in).live
      rw [q, fresh_size] at eo; cases eo
    have hn2 : h2.get? s.heap.objs.size = some { cls := .type "tuple", data := .seq #[.int p s.toks, val] } := (hs2.2 _ hitn.symm).trans ht1
    have X2 : Rel C hk as st f h2 := X.touch P fun b o hb eb => hs2.extBut b o (fun q => hb (q ▸ it_in)) (hk1 b o (fun q => hb (q ▸ it_in)) (fun q => hb (q ▸ e_in)) eb)
    have X3 := X2.adopt (a := s.heap.objs.size) (Apart.fresh X (fresh_size _) hn2) q3 ⟨_, hn2, ⟨_, _, rfl, ⟨_, rfl⟩, _, _, rfl, hrv.mono pre1, rfl⟩⟩ rfl
    have hit2 : h2.IsListIter e1 l (p + 1) := hit1.extBut hs2.extBut hne.symm
    obtain ⟨oe, hoe, _⟩ := id hit2
    exact K.k1 _ _ _ (Option.some.inj z).symm (as ++ [s.heap.objs.size]) h2 _ _ pre1 X3.1 ⟨e1, l, val, hf, hne, pre_get pre1 ha, he2, hit2⟩ (enum_apart2 (h1 := h1) P hf he2 hoe) X3.2
  · rw [nth_eq] at q2
    exact wpAny_pyNext_enum_end hh hen hit hl.isList (none_end q2 hr.length) fun h' hs => K.k0 (Option.some.inj z).symm h' s.toks (X.touch P fun b o hb e => hs b o (fun q => hb (q ▸ e_in)) e)
theorem next_range (ht : Tg tg tup) (hh : A.handled = none) {x : Int} {left : Nat} (X : Rel C hk as st f s.heap) (I : ItAt C as (.range x left) it fp s.heap) (P : ∀ b ∈ fp, Apart hk s.heap as f b) (e : nextA tup (.range x left) st.os = some r)
    (K : NextK C hk as st f it fp s Qn Qs r) : NextG C A E tg it Qn Qs s := by
  obtain ⟨hf, hit⟩ := I
  refine bT_elim e fun qt e => oN_elim e (fun h0 z => ?_) fun k h1 z => ?_
  · subst h0
    exact wpAny_pyNext_range_end hh hit (by simp) fun h' hs => K.k0 (Option.some.inj z).symm h' s.toks (one_touch X P hf hs)
  · subst h1
    obtain ⟨y, pp, rfl⟩ := ht.name_of qt
    refine wpAny_pyNext_range_item hit (by omega) fun h' hit' hs => ?_
    rw [show (((k + 1 : Nat)) : Int) - 1 = (k : Int) by omega] at hit'
    exact wpAny_pure (K.k1 _ _ _ (Option.some.inj z).symm as h' _ _ (List.prefix_refl _) (one_touch X P hf hs.extBut) ⟨hf, hit'⟩ (one_apart P hf hit') ⟨_, rfl⟩)
theorem key_at {es : List (Int × AV)} {kvs : List (Int × Value)} {v : Int} {p : Nat} (h : KvOk C as (fun k : Int => k) es kvs) (q : es[p]?.map (·.1) = some v) : ∃ val, kvs[p]? = some (v, val) := by
  have h1 := congrArg (fun l => l[p]?) h.1
  simp only [List.getElem?_map] at h1
  rw [q] at h1
  cases q3 : kvs[p]? with
  | none => rw [q3] at h1; cases h1
  | some kv => rw [q3] at h1; cases h1; exact ⟨kv.2, rfl⟩
theorem next_dict (ht : Tg tg tup) (hh : A.handled = none) {i p m ep : Nat} (X : Rel C hk as st f s.heap) (I : ItAt C as (.dict i p m ep) it fp s.heap) (P : ∀ b ∈ fp, Apart hk s.heap as f b) (e : nextA tup (.dict i p m ep) st.os = some r)
    (K : NextK C hk as st f it fp s Qn Qs r) : NextG C A E tg it Qn Qs s := by
  obtain ⟨hf, l, ha, hit⟩ := I
  refine bT_elim e fun qt e => onDI_elim e fun es ep' q e => bT_elim e fun qe e => bT_elim e fun ql z => ?_
  cases Nat.eq_of_beq_eq_true qe
  cases Nat.eq_of_beq_eq_true ql
  obtain ⟨l', ha', lo, kvs, hd, hkv⟩ := X.S.obj i _ q
  rw [ha] at ha'
  cases ha'
  replace hkv : KvOk C as (fun k : Int => k) es kvs := ⟨hkv.1, hkv.2⟩
  have hlen : kvs.length = es.length := hkv.length
  rw [← hlen] at hit
  refine oC_elim z (fun v q2 z => ?_) fun q2 z => ?_
  · rw [nthK_eq] at q2
    obtain ⟨val, hkk⟩ := key_at hkv q2
    obtain ⟨y, pp, rfl⟩ := ht.name_of qt
    refine wpAny_pyNext_dict_item hit hd hkk fun key h' hkey hit' hs => ?_
    obtain ⟨t, rfl⟩ := int_of hkey
    obtain ⟨o, ho, _⟩ := id hit'
    exact wpAny_pure (K.k1 _ _ _ (Option.some.inj z).symm as h' s.toks _ (List.prefix_refl _) (one_touch X P hf hs.extBut) ⟨hf, l, ha, hlen ▸ hit'⟩ (one_apart P hf ho) ⟨t, rfl⟩)
  · rw [nthK_eq] at q2
    refine wpAny_pyNext_dict_end hh hit hd ?_ fun h' hs => K.k0 (Option.some.inj z).symm h' s.toks (one_touch X P hf hs)
    simp at q2 ⊢; omega
theorem next_byt (ht : Tg tg tup) (hh : A.handled = none) {b : List Nat} {p : Nat} (X : Rel C hk as st f s.heap) (I : ItAt C as (.byt b p) it fp s.heap) (P : ∀ b ∈ fp, Apart hk s.heap as f b) (e : nextA tup (.byt b p) st.os = some r)
    (K : NextK C hk as st f it fp s Qn Qs r) : NextG C A E tg it Qn Qs s := by
  obtain ⟨hf, t, hit⟩ := I
  refine bT_elim e fun qt e => oC_elim e (fun v q z => ?_) fun q z => ?_
  · rw [nthC_eq] at q
    obtain ⟨y, pp, rfl⟩ := ht.name_of qt
    refine KBw.next_item hit (c := UInt8.ofNat v) (by simp [q]) fun h' hit' hs => ?_
    obtain ⟨o, ho, _⟩ := id hit'
    refine wpAny_pure (K.k1 _ _ _ (Option.some.inj z).symm as h' _ _ (List.prefix_refl _) (one_touch X P hf hs.extBut) ⟨hf, t, hit'⟩ (one_apart P hf ho) ⟨s.toks, ?_⟩)
    show Value.int _ _ = Value.int _ _
    congr 1
  · rw [nthC_eq] at q
    exact KBw.next_end hh hit (by simpa using q) fun h' hs => K.k0 (Option.some.inj z).symm h' s.toks (one_touch X P hf hs)
theorem next_txt (ht : Tg tg tup) (hh : A.handled = none) {b : List Nat} {p : Nat} (X : Rel C hk as st f s.heap) (I : ItAt C as (.txt b p) it fp s.heap) (P : ∀ b ∈ fp, Apart hk s.heap as f b) (e : nextA tup (.txt b p) st.os = some r)
    (K : NextK C hk as st f it fp s Qn Qs r) : NextG C A E tg it Qn Qs s := by
  obtain ⟨hf, t, hit⟩ := I
  refine bT_elim e fun qt e => oC_elim e (fun v q z => ?_) fun q z => ?_
  · rw [nthC_eq] at q
    obtain ⟨y, pp, rfl⟩ := ht.name_of qt
    refine wpAny_pyNext_ascii_item hit (c := v) (by simpa using q) fun h' hit' hs => ?_
    obtain ⟨o, ho, _⟩ := id hit'
    exact wpAny_pure (K.k1 _ _ _ (Option.some.inj z).symm as h' _ _ (List.prefix_refl _) (one_touch X P hf hs.extBut) ⟨hf, t, hit'⟩ (one_apart P hf ho) ⟨s.toks, rfl⟩)
  · rw [nthC_eq] at q
    exact wpAny_pyNext_ascii_end hh hit (by simpa using q) fun h' hs => K.k0 (Option.some.inj z).symm h' s.toks (one_touch X P hf hs)
theorem next_any (ht : Tg tg tup) {ai : AI} (hh : A.handled = none) (X : Rel C hk as st f s.heap) (I : ItAt C as ai it fp s.heap) (P : ∀ b ∈ fp, Apart hk s.heap as f b) (e : nextA tup ai st.os = some r)
    (K : NextK C hk as st f it fp s Qn Qs r) : NextG C A E tg it Qn Qs s := by
  cases ai with
  | list i p => exact next_list ht hh X I P e K
  | enum i p => exact next_enum ht hh X I P e K
  | range x left => exact next_range ht hh X I P e K
  | dict i p m ep => exact next_dict ht hh X I P e K
  | byt b p => exact next_byt ht hh X I P e K
  | txt b p => exact next_txt ht hh X I P e K
end
theorem next_ok {tg : Expr} {tup : Bool} (ht : Tg tg tup) {A : Around} {E : Value → Shared → Prop} {s : Shared} {hk : Heap} {as : List Addr} {st : St} {f : Fm} {ai : AI} {it : Addr} {fp : List Addr} {r : Option (AV × AI × Store)}
    {Qn : Shared → Prop} {Qs : Value → Shared → Prop} (hh : A.handled = none) (X : Rel C hk as st f s.heap) (I : ItAt C as ai it fp s.heap) (P : ∀ b ∈ fp, Apart hk s.heap as f b) (e : nextA tup ai st.os = some r)
    (K0 : r = none → ∀ h' tk, Rel C hk as st f h' → Qn { s with heap := h', toks := tk })
    (K1 : ∀ v ai' os', r = some (v, ai', os') → ∀ as' h' tk val, as <+: as' → Rel C hk as' ⟨st.loc, os'⟩ f h' → ItAt C as' ai' it fp h' → (∀ b ∈ fp, Apart hk h' as' f b) → RV C as' v val → Qs val { s with heap := h', toks := tk }) :
    wpAny (model prog C.w) A (pyNext (.ref it)) (fun r s1 => match r with
      | none => Qn s1
      | some v => wpAny (model prog C.w) A (letOwnedTupleGo tg (.ref it) v) (fun _ s2 => Qs v s2) E s1) E s := next_any ht hh X I P e ⟨K0, K1⟩
end
end Mine
end
end
section
set_option maxRecDepth 100000
set_option linter.unusedVariables false
set_option linter.unusedSectionVars false
set_option autoImplicit false
set_option genSizeOf false
set_option genInjectivity false
noncomputable section
namespace Mine
open PySem PySem.W PyProof.Rows
section
variable {C : Cx} {n : Nat} {sc : Sc}
/-! what stands behind `in` -/
noncomputable def RefI (C : Cx) (n : Nat) (sc : Sc) (e : Expr) (f : St → Option (AI × St)) : Prop :=
  ∀ ⦃A : Around⦄ ⦃env : Env⦄ ⦃E : Value → Shared → Prop⦄ ⦃s : Shared⦄ ⦃hk : Heap⦄ ⦃as : List Addr⦄ ⦃st st' : St⦄ ⦃ai : AI⦄ ⦃Q : Value → Shared → Prop⦄,
    Room A n → Frm sc env → f st = some (ai, st') → Rel C hk as st (fmOf sc env) s.heap →
    (∀ as' h' tk it fp, as <+: as' → Rel C hk as' st' (fmOf sc env) h' → ItAt C as' ai it fp h' → (∀ b ∈ fp, Apart hk h' as' (fmOf sc env) b) → Q (.ref it) { s with heap := h', toks := tk }) →
    wpAny (model prog C.w) A (eval e env) (fun x s1 => wpAny (model prog C.w) A (pyIter x) Q E s1) E s
theorem kRetI {hk : Heap} {L : Fm} {as : List Addr} {s : Shared} {a ai : AI} {b st' : St} {Q : Value → Shared → Prop} (e : some (a, b) = some (ai, st'))
    (K : ∀ as' h' tk it fp, as <+: as' → Rel C hk as' st' L h' → ItAt C as' ai it fp h' → (∀ b ∈ fp, Apart hk h' as' L b) → Q (.ref it) { s with heap := h', toks := tk }) :
    ∀ as' h' tk it fp, as <+: as' → Rel C hk as' b L h' → ItAt C as' a it fp h' → (∀ b ∈ fp, Apart hk h' as' L b) → Q (.ref it) { s with heap := h', toks := tk } := by cases e; exact K
noncomputable def iterA (v : AV) (os : Store) : Option AI := alt (onRef v fun i => alt (onList (os.get i) fun _ => some (.list i 0)) (onDI (os.get i) fun es ep => some (.dict i 0 es.length ep)))
  (alt (onByt v fun b => some (.byt b 0)) (onStr v fun s => bT (s.all fun c => Nat.blt c 128) (some (.txt s 0))))
noncomputable def cIter (f : St → Option (AV × St)) : St → Option (AI × St) := fun s => ob (f s) fun v s1 => o1 (iterA v s1.os) fun ai => some (ai, s1)
theorem newIt {hk h : Heap} {as : List Addr} {st : St} {f : Fm} (X : Rel C hk as st f h) {o : Obj} (ho : o.isFreed = false) :
    ∀ b ∈ [h.objs.size], Apart hk (h.push o) as f b := fun b hb => by
  rw [List.mem_singleton.mp hb]
  exact Apart.fresh X (fresh_size _) (Heap.get?_push_size _ ho)
theorem ascii_ok {l : List Nat} (q : (l.all fun c => Nat.blt c 128) = true) : (l.toArray.all fun c => decide (c < 128)) = true := by
  rw [List.all_eq_true] at q
  rw [Array.all_eq_true]
  intro i hi
  have := q _ (List.getElem_mem (by simpa using hi))
  rw [Store.blt_eq] at this
  simpa using this
theorem iter_ok {A : Around} {E : Value → Shared → Prop} {s : Shared} {hk : Heap} {as : List Addr} {st : St} {L : Fm} {v : AV} {x : Value} {ai : AI} {Q : Value → Shared → Prop} (X : Rel C hk as st L s.heap) (hx : RV C as v x) (e : iterA v st.os = some ai)
    (K : ∀ h' tk it fp, Rel C hk as st L h' → ItAt C as ai it fp h' → (∀ b ∈ fp, Apart hk h' as L b) → Q (.ref it) { s with heap := h', toks := tk }) : wpAny (model prog C.w) A (pyIter x) Q E s := by
  refine alt_elim e (fun e => onRef_elim e fun i hi e => alt_elim e (fun e => onList_elim e fun xs q z => ?_) fun e => onDI_elim e fun es ep q z => ?_) fun e => alt_elim e (fun e => onByt_elim e fun b hb z => ?_) fun e => onStr_elim e fun b hb e => bT_elim e fun q z => ?_
  · subst hi
    cases z
    exact X.listE q hx fun a items m ha hl hr => wpAny_pyIter_list hl.isList (K _ s.toks _ _ (X.push _) ⟨rfl, a, ha, _, Heap.get?_push_size _ rfl, rfl, rfl⟩ (newIt X rfl))
  · subst hi
    cases z
    refine X.dictIE q hx fun a kvs ha hd hkv => wpAny_pyIter_dict (X.loI q ha) hd (K _ s.toks _ _ (X.push _) ⟨rfl, a, ha, _, Heap.get?_push_size _ rfl, rfl, ?_⟩ (newIt X rfl))
    show Data.fields #[.ref a, .int 0 0, .int kvs.length 0, .int ep 0] = _
    rw [hkv.length]
    rfl
  · subst hb
    cases z
    exact rvByt hx fun t => KBw.pyIter_bytes (K _ s.toks _ _ (X.push _) ⟨rfl, t, _, Heap.get?_push_size _ rfl, rfl, rfl⟩ (newIt X rfl))
  · subst hb
    cases z
    exact rvStr hx fun t => wpAny_pyIter_ascii (ascii_ok q) (K _ s.toks _ _ (X.push _) ⟨rfl, t, _, Heap.get?_push_size _ rfl, rfl, rfl⟩ (newIt X rfl))
theorem RefI.val (O : Ok C) {e : Expr} {f} (hf : RefE C n sc e f) : RefI C n sc e (cIter f) := by
  intro A env E s hk as st st' ai Q R F e' X K
  refine ob_elim e' fun v s1 q1 e => o1_elim e fun ai' q2 z => ?_
  exact hf R F q1 X fun as1 h1 t1 x p1 X1 hx => iter_ok (s := { s with heap := h1, toks := t1 }) X1 hx q2 fun h2 t2 it fp X2 I2 P2 => kRetI z K as1 h2 t2 it fp p1 X2 I2 P2
noncomputable def rangeA (a b : Int) : Option AI := bT (smallZ a) <| bT (smallZ b) <| some (.range a (b - a).toNat)
theorem range_size {a b : Int} : Builtin.Range.rangeSize a b 1 = (((b - a).toNat : Nat) : Int) := by
  rw [rangeSize_one]
  split <;> omega
theorem small_rng {a b : Int} (q1 : smallZ a = true) (q2 : smallZ b = true) : (-2147483648 ≤ a ∧ a ≤ 2147483648) ∧ (-2147483648 ≤ b ∧ b ≤ 2147483648) := by
  have b1 := smallZ_le q1
  have b2 := smallZ_le q2
  omega
theorem range_it {A : Around} {E : Value → Shared → Prop} {s : Shared} {hk : Heap} {as : List Addr} {st : St} {f : Fm} {a b : Int} {t u v : Tok} {ai : AI} {Q : Value → Shared → Prop} (X : Rel C hk as st f s.heap) (e : rangeA a b = some ai)
    (K : ∀ as' h' tk it fp, as <+: as' → Rel C hk as' st f h' → ItAt C as' ai it fp h' → (∀ b ∈ fp, Apart hk h' as' f b) → Q (.ref it) { s with heap := h', toks := tk }) (tk : Nat) :
    wpAny (model prog C.w) A (pyIter (.ref s.heap.objs.size)) Q E { s with heap := s.heap.push { cls := .type "range", data := .fields #[.int a t, .int b u, .int 1 v] }, toks := tk } := by
  refine bT_elim e fun q1 e => bT_elim e fun q2 z => ?_
  cases z
  have X1 : Rel C hk as st f (s.heap.push { cls := .type "range", data := .fields #[.int a t, .int b u, .int 1 v] }) := X.push _
  have b1 := small_rng q1 q2
  refine wpAny_pyIter_range (IsRange.new s.heap a b 1 t u v) (small_one (by omega) (by omega) (by omega) (by omega)) (K as _ tk _ _ (List.prefix_refl _) (X1.push _) ⟨rfl, ?_⟩ (newIt X1 rfl))
  have h1 := Heap.get?_push_size (s.heap.push { cls := .type "range", data := .fields #[.int a t, .int b u, .int 1 v] }) (o := { cls := .type "range_iterator", data := .fields #[rawInt a, rawInt (Builtin.Range.rangeSize a b 1), rawInt 1] }) rfl
  show IsRangeIter _ _ a (((b - a).toNat : Nat) : Int) 1
  rw [← range_size]
  exact h1
noncomputable def cRange1 (f : St → Option (AV × St)) : St → Option (AI × St) := fun s => ob (f s) fun v s1 => onInt v fun i => o1 (rangeA 0 i) fun ai => some (ai, s1)
theorem cSeq_1 {f : St → Option (AV × St)} {st s1 : St} {v : AV} (q : f st = some (v, s1)) : cSeq [f] st = some ([v], s1) := by
  show ob (f st) _ = _
  rw [q]
  rfl
theorem cSeq_2 {f g : St → Option (AV × St)} {st s1 s2 : St} {v w : AV} (q : f st = some (v, s1)) (q2 : g s1 = some (w, s2)) : cSeq [f, g] st = some ([v, w], s2) := by
  show ob (f st) (fun a s1 => ob (cSeq [g] s1) fun vs s2 => some (a :: vs, s2)) = _
  rw [q]
  show ob (cSeq [g] s1) _ = _
  rw [cSeq_1 q2]
  rfl
theorem RefI.range1 (O : Ok C) {e : Expr} {p pos : Pos} {f} (hf : RefE C n sc e f) (hx : sc.s.names.lookup (Str.ofString "range") = some .globalImplicit) (hm : C.mg (Str.ofString "range") = none)
    (he : ∀ env, starEach [e] env = (false, eval e env) :: starEach [] env := by intro _; rfl) (hp : ∀ env, (backTo pos (starEach [e] env)).any (·.1) = false := by intro _; rfl) :
    RefI C n sc (.Call (.Name (Str.ofString "range") p) [e] [] pos) (cRange1 f) := by
  intro A env E s hk as st st' ai Q R F e' X K
  refine ob_elim e' fun v s1 q1 e => onInt_elim e fun i hi e => o1_elim e fun ai' q2 z => ?_
  subst hi
  refine wpAny_Call_Name_kw (nameB O X F hx hm (v := .type "range") rfl rfl (by decide) ?_)
  refine callFlat (.t "range") (hp env) (args_of (he env) ((RefL.cons (f := f) hf .nil he) pos R F (cSeq_1 q1) X fun as1 h1 t1 xs p1 X1 hxs => ?_))
  exact rvs1 hxs fun w hw => rvInt hw fun t => call_range_1 (range_it (s := { s with heap := h1, toks := t1 }) X1 q2 (fun as2 h2 t2 it fp p2 X2 I2 P2 => kRetI z K as2 h2 t2 it fp (p1.trans p2) X2 I2 P2) _)
noncomputable def cRange2 (f g : St → Option (AV × St)) : St → Option (AI × St) := fun s => ob (f s) fun v s1 => ob (g s1) fun w s2 => onInt v fun i => onInt w fun j => o1 (rangeA i j) fun ai => some (ai, s2)
theorem RefI.range2 (O : Ok C) {e e2 : Expr} {p pos : Pos} {f g} (hf : RefE C n sc e f) (hg : RefE C n sc e2 g) (hx : sc.s.names.lookup (Str.ofString "range") = some .globalImplicit) (hm : C.mg (Str.ofString "range") = none)
    (he : ∀ env, starEach [e, e2] env = (false, eval e env) :: starEach [e2] env := by intro _; rfl) (he2 : ∀ env, starEach [e2] env = (false, eval e2 env) :: starEach [] env := by intro _; rfl) (hp : ∀ env, (backTo pos (starEach [e, e2] env)).any (·.1) = false := by intro _; rfl) :
    RefI C n sc (.Call (.Name (Str.ofString "range") p) [e, e2] [] pos) (cRange2 f g) := by
  intro A env E s hk as st st' ai Q R F e' X K
  refine ob_elim e' fun v s1 q1 e => ob_elim e fun w s2 q3 e => onInt_elim e fun i hi e => onInt_elim e fun j hj e => o1_elim e fun ai' q2 z => ?_
  subst hi hj
  refine wpAny_Call_Name_kw (nameB O X F hx hm (v := .type "range") rfl rfl (by decide) ?_)
  refine callFlat (.t "range") (hp env) (args_of (he env) ((RefL.cons hf (.cons hg .nil he2) he) pos R F (cSeq_2 q1 q3) X fun as1 h1 t1 xs p1 X1 hxs => ?_))
  exact rvs2 hxs fun w w2 hw hw2 => rvInt hw fun t => rvInt hw2 fun u => call_range_2 (range_it (s := { s with heap := h1, toks := t1 }) X1 q2 (fun as2 h2 t2 it fp p2 X2 I2 P2 => kRetI z K as2 h2 t2 it fp (p1.trans p2) X2 I2 P2) _)
noncomputable def cEnum (f : St → Option (AV × St)) : St → Option (AI × St) := fun s => ob (f s) fun v s1 => onRef v fun i => onList (s1.os.get i) fun _ => some (.enum i 0, s1)
theorem get_out {h : Heap} {a : Addr} (ha : h.objs.size ≤ a) : h.get? a = none := by
  cases q : h.get? a with
  | none => rfl
  | some o => exact absurd (Heap.lt_size q) (Nat.not_lt.mpr ha)
theorem enum_apart {hk h h' : Heap} {as : List Addr} {st : St} {f : Fm} {o1 o2 : Obj} (X : Rel C hk as st f h) (h1 : h'.get? (h.objs.size + 1) = some o1) (h2 : h'.get? h.objs.size = some o2) :
    ∀ b ∈ [h.objs.size + 1, h.objs.size], Apart hk h' as f b := fun b hb => by
  rcases List.mem_cons.mp hb with q | q
  · rw [q]; exact Apart.fresh X (get_out (Nat.le_succ _)) h1
  · rw [List.mem_singleton.mp q]; exact Apart.fresh X (get_out (Nat.le_refl _)) h2
theorem RefI.enum (O : Ok C) {e : Expr} {p pos : Pos} {f} (hf : RefE C n sc e f) (hx : sc.s.names.lookup (Str.ofString "enumerate") = some .globalImplicit) (hm : C.mg (Str.ofString "enumerate") = none)
    (he : ∀ env, starEach [e] env = (false, eval e env) :: starEach [] env := by intro _; rfl) (hp : ∀ env, (backTo pos (starEach [e] env)).any (·.1) = false := by intro _; rfl) :
    RefI C n sc (.Call (.Name (Str.ofString "enumerate") p) [e] [] pos) (cEnum f) := by
  intro A env E s hk as st st' ai Q R F e' X K
  refine ob_elim e' fun v s1 q1 e => onRef_elim e fun i hi e => onList_elim e fun xs q2 z => ?_
  subst hi
  refine wpAny_Call_Name_kw (nameB O X F hx hm (v := .type "enumerate") rfl rfl (by decide) ?_)
  refine callFlat (.t "enumerate") (hp env) (args_of (he env) ((RefL.cons (f := f) hf .nil he) pos R F (cSeq_1 q1) X fun as1 h1 t1 xs p1 X1 hxs => ?_))
  refine rvs1 hxs fun w hw => X1.listE q2 hw fun a items m ha hl hrr => ?_
  refine call_enumerate_list hl.isList fun h' hen hit hsz hkeep => wpAny_pyIter_enum hen ?_
  obtain ⟨oi, hoi, _⟩ := id hit
  exact kRetI z K as1 h' t1 _ _ p1 (X1.ext hkeep) ⟨_, a, _, rfl, Nat.succ_ne_self _, ha, hen, hit⟩ (enum_apart X1 hen hoi)
/-! for, while -/
/-- a turn's flow: on, or out of the loop -/
noncomputable def loopF (fl : AF) (s : St) (on : Option (AF × St)) : Option (AF × St) := match fl with
  | .next => on
  | .cont => on
  | .brk => some (.next, s)
  | .ret v => some (.ret v, s)
noncomputable def nx {β : Type} (r : Option (AV × AI × Store)) (k : AV → AI → Store → Option β) (y : Option β) : Option β := match r with
  | some (v, ai, os) => k v ai os
  | none => y
theorem nx_elim {β : Type} {r : Option (AV × AI × Store)} {k : AV → AI → Store → Option β} {y : Option β} {x : β} {P : Prop} (e : nx r k y = some x) (h1 : ∀ v ai os, r = some (v, ai, os) → k v ai os = some x → P) (h2 : r = none → y = some x → P) : P := by
  cases r with
  | none => exact h2 rfl e
  | some p => exact h1 p.1 p.2.1 p.2.2 rfl e
noncomputable def forStep (tup : Bool) (a : AV → St → Option St) (body : St → Option (AF × St)) (ih : AI → St → Option (AF × St)) (ai : AI) (s : St) : Option (AF × St) :=
  o1 (nextA tup ai s.os) fun r => nx r (fun v ai' os => o1 (withS s os (a v)) fun s1 => ob (body s1) fun fl s2 => loopF fl s2 (ih ai' s2)) (some (.next, s))
noncomputable def cForL (tup : Bool) (a : AV → St → Option St) (body : St → Option (AF × St)) (k : Nat) : AI → St → Option (AF × St) := Nat.rec (motive := fun _ => AI → St → Option (AF × St)) (fun _ _ => none)
  (fun _ ih => forStep tup a body ih) k
noncomputable def cFor (tup : Bool) (fi : St → Option (AI × St)) (a : AV → St → Option St) (body : St → Option (AF × St)) : St → Option (AF × St) := fun s => ob (fi s) fun ai s1 => cForL tup a body 200 ai s1
/-- what holds between a loop's turns -/
inductive ForInv (C : Cx) (hk : Heap) (f : Fm) (s : Shared) (as : List Addr) (it : Addr) (fp : List Addr) {β : Type} (run : Nat → AI → St → Option β) (r : β) (k : Nat) (s' : Shared) : Prop
  | mk (as2 : List Addr) (h2 : Heap) (t2 : Nat) (st2 : St) (ai2 : AI) (eq : s' = { s with heap := h2, toks := t2 }) (p : as <+: as2) (X : Rel C hk as2 st2 f h2) (I : ItAt C as2 ai2 it fp h2) (P : ∀ b ∈ fp, Apart hk h2 as2 f b) (e : run k ai2 st2 = some r)
theorem RefS.for {target iter : Expr} {body : List Stmt} {pos : Pos} {tup : Bool} {fi a fb} (hi : RefI C n sc iter fi) (ht : Tg target tup) (ha : RefA C n sc target a) (hb : RefSs C n sc body fb) (hs : ∀ env x, foldedSetIterable iter env x = pure x := by intro _ _; rfl) :
    RefS C n sc (.For target iter body [] pos) (cFor tup fi a fb) := by
  intro A env E s hk as st st' v Q R F e X K
  refine ob_elim e fun ai s1 q1 e => ?_
  refine wpAny_For (hi R F q1 X fun as1 h1 t1 it fp p1 X1 I1 P1 => ?_) (hs env)
  refine codeAny_forLoop_any (ForInv C hk (fmOf sc env) s as it fp (cForL tup a fb) (v, st')) (fun k s' H => ?_) 200 ⟨as1, h1, t1, s1, ai, rfl, p1, X1, I1, P1, e⟩
  cases H with
  | mk as2 h2 t2 st2 ai2 eq p2 X2 I2 P2 e2 =>
  subst eq
  cases k with
  | zero => exact noS e2
  | succ k =>
    refine o1_elim e2 fun r q2 e3 => ?_
    refine next_ok (s := { s with heap := h2, toks := t2 }) ht R.handled X2 I2 P2 q2 (fun hr h3 t3 X3 => ?_) fun u ai3 os3 hr as3 h3 t3 val p3 X3 I3 P3 hu => ?_
    · subst hr
      exact wpAny_execs_nil (kRetT e3 K as2 h3 t3 _ p2 X3 rfl)
    · subst hr
      refine o1_elim e3 fun st4 q3 e4 => ob_elim e4 fun fl st5 q4 e5 => ?_
      refine ha (s := { s with heap := h3, toks := t3 }) R F q3 (X3.wide F.nod) hu fun h4 t4 X4 => ?_
      have T4 := turn X3 I3 P3 F.nod (List.prefix_refl _) X4
      refine hb (s := { s with heap := h4, toks := t4 }) R F q4 (T4.1.wide F.nod) fun as5 h5 t5 fv p5 X5 hf => ?_
      have T5 := turn T4.1 T4.2.1 T4.2.2 F.nod p5 X5
      have p25 := p2.trans (p3.trans p5)
      cases fl with
      | next => cases hf; exact ⟨k, Nat.lt_succ_self _, as5, h5, t5, st5, ai3, rfl, p25, T5.1, T5.2.1, T5.2.2, e5⟩
      | cont => cases hf; exact ⟨k, Nat.lt_succ_self _, as5, h5, t5, st5, ai3, rfl, p25, T5.1, T5.2.1, T5.2.2, e5⟩
      | brk => cases hf; exact kRetT e5 K as5 h5 t5 _ p25 T5.1 rfl
      | ret w => exact hf.elim fun val hv => by rw [hv.1]; exact kRetT e5 K as5 h5 t5 _ p25 T5.1 ⟨val, rfl, hv.2⟩
noncomputable def cWhL (t : St → Option (Bool × St)) (body : St → Option (AF × St)) : Nat → St → Option (AF × St)
  | 0, _ => none
  | k + 1, s => ob (t s) fun b s1 => bIf b (ob (body s1) fun fl s2 => loopF fl s2 (cWhL t body k s2)) (some (.next, s1))
inductive WhInv (C : Cx) (hk : Heap) (f : Fm) (s : Shared) (as : List Addr) {β : Type} (run : Nat → St → Option β) (r : β) (k : Nat) (s' : Shared) : Prop
  | mk (as2 : List Addr) (h2 : Heap) (t2 : Nat) (st2 : St) (eq : s' = { s with heap := h2, toks := t2 }) (p : as <+: as2) (X : Rel C hk as2 st2 f h2) (e : run k st2 = some r)
theorem RefS.while {test : Expr} {body : List Stmt} {pos : Pos} {ft fb} (ht : RefB C n sc test ft) (hb : RefSs C n sc body fb) : RefS C n sc (.While test body [] pos) (cWhL ft fb 200) := by
  intro A env E s hk as st st' v Q R F e X K
  refine wpAny_While (codeAny_whileLoop (WhInv C hk (fmOf sc env) s as (cWhL ft fb) (v, st')) (fun k s' H => ?_) 200 ⟨as, s.heap, s.toks, st, rfl, List.prefix_refl _, X, e⟩)
  cases H with
  | mk as2 h2 t2 st2 eq p2 X2 e2 =>
  subst eq
  cases k with
  | zero => exact noS e2
  | succ k =>
    refine ob_elim e2 fun b st3 q1 e3 => ?_
    refine ht (s := { s with heap := h2, toks := t2 }) R F q1 X2 fun as3 h3 t3 x p3 X3 hx => ?_
    cases hx
    refine bIf_elim e3 (fun hb1 e4 => ob_elim e4 fun fl st5 q4 e5 => ?_) fun hb1 e4 => ?_
    · subst hb1
      refine hb (s := { s with heap := h3, toks := t3 }) R F q4 X3 fun as5 h5 t5 fv p5 X5 hf => ?_
      have p25 := p2.trans (p3.trans p5)
      cases fl with
      | next => cases hf; exact ⟨k, Nat.lt_succ_self _, as5, h5, t5, st5, rfl, p25, X5, e5⟩
      | cont => cases hf; exact ⟨k, Nat.lt_succ_self _, as5, h5, t5, st5, rfl, p25, X5, e5⟩
      | brk => cases hf; exact kRetT e5 K as5 h5 t5 _ p25 X5 rfl
      | ret w => exact hf.elim fun val hv => by rw [hv.1]; exact kRetT e5 K as5 h5 t5 _ p25 X5 ⟨val, rfl, hv.2⟩
    · subst hb1
      exact wpAny_execs_nil (kRetT e4 K as3 h3 t3 _ (p2.trans p3) X3 rfl)
end
end Mine
end
end
section
set_option maxRecDepth 100000
set_option linter.unusedVariables false
set_option linter.unusedSectionVars false
set_option autoImplicit false
set_option genSizeOf false
set_option genInjectivity false
noncomputable section
namespace Mine
open PySem PySem.W PyProof.Rows
section
variable {prog' : Program} {w : World} {A : Around} {R : Result → Shared → Prop} {s : Shared}
theorem compLoop_any {elt target iter : Expr} {ifs : List Expr} {scope : Scope} {pos : Pos} {it acc : Value} {env : Env} (I : Nat → Shared → Prop)
    (turn : ∀ n s, I n s → wpAny (model prog' w) A (pyNext it) (fun r s₁ => match r with
      | none => R (.ok .next) s₁
      | some v => wpAny (model prog' w) A (letOwnedTupleGo target it v) (fun _ s₁' => wpAny (model prog' w) A (assign target env v) (fun _ s₂ =>
          wpAny (model prog' w) A (forIn ifs true fun c r => if r = true then do let ok ← isTrue c env (eval c env); pure (ForInStep.yield ok) else pure (ForInStep.yield r)) (fun ok s₃ =>
            if ok = true then wpAny (model prog' w) A (eval elt env) (fun x s₄ =>
              wpAny (model prog' w) A (call (.builtin "list.append") [acc, x]) (fun _ s₅ => ∃ m, m < n ∧ I m s₅) (notedBy (model prog' w) A env fun e s' => R (.error e) s') s₄) (notedBy (model prog' w) A env fun e s' => R (.error e) s') s₃
            else ∃ m, m < n ∧ I m s₃) (notedBy (model prog' w) A env fun e s' => R (.error e) s') s₂) (notedBy (model prog' w) A env fun e s' => R (.error e) s') s₁') (notedBy (model prog' w) A env fun e s' => R (.error e) s') s₁) (notedBy (model prog' w) A env fun e s' => R (.error e) s') s)
    (n : Nat) (h : I n s) :
    codeAny (model prog' w) A (.compLoop (.ListComp elt [⟨target, iter, ifs, 0⟩] scope pos) 0 it acc env) R s := by
  refine codeAny_loop rfl I (fun n s hI => ?_) n h
  show wpAny _ A ((compTurn (.ListComp elt [⟨target, iter, ifs, 0⟩] scope pos) 0 it acc env).onRaise (fun x => do noteFrame x env; theTreesLotGoes x)) _ _ s
  refine wpAny_noted ?_
  rw [compTurn_list]
  refine wpAny_bind (wpAny_standAt (wpAny_bind (wpAny_mono (turn n s hI) (fun r s₁ h₁ => ?_) fun _ _ h' => h')))
  cases r with
  | none => exact wpAny_pure h₁
  | some v =>
    refine wpAny_bind (wpAny_mono h₁ (fun _ s₁' h₁' => ?_) fun _ _ h' => h')
    refine wpAny_bind (wpAny_mono h₁' (fun _ s₂ h₂ => wpAny_bind (wpAny_mono h₂ (fun ok s₃ h₃ => ?_) fun _ _ h' => h')) fun _ _ h' => h')
    cases ok with
    | false => exact wpAny_pure ⟨rfl, h₃⟩
    | true =>
      exact wpAny_bind (wpAny_bind (wpAny_mono h₃ (fun x s₄ h₄ => wpAny_bind (wpAny_mono h₄ (fun _ s₅ h₅ => wpAny_pure (wpAny_pure ⟨rfl, h₅⟩)) fun _ _ h' => h')) fun _ _ h' => h'))
end
section
variable {C : Cx} {n : Nat} {sc : Sc}
theorem self_ok {A : Around} {E : Value → Shared → Prop} {s : Shared} {as : List Addr} {ai : AI} {it : Addr} {fp : List Addr} {Q : Value → Shared → Prop} (I : ItAt C as ai it fp s.heap) (h : Q (.ref it) s) : wpAny (model prog C.w) A (pyIter (.ref it)) Q E s := by
  cases ai with
  | list i p => obtain ⟨_, l, _, hit⟩ := I; exact wpAny_pyIter_listiter hit h
  | enum i p => obtain ⟨_, _, _, _, _, _, hit, _⟩ := I; exact wpAny_pyIter_enum hit h
  | range x l => obtain ⟨_, hit⟩ := I; exact wpAny_pyIter_rangeiter hit h
  | dict i p m ep => obtain ⟨_, l, _, hit⟩ := I; exact wpAny_pyIter_keyiter hit h
  | byt b p => obtain ⟨_, t, hit⟩ := I; exact KBw.pyIter_self hit h
  | txt b p => obtain ⟨_, t, hit⟩ := I; exact wpAny_pyIter_striter_ascii hit h
/-! cells for a comprehension -/
noncomputable def clF (cells : List (Str × Addr)) : List (Str × NameKind) → List (Str × Addr) → List (Str × Addr)
  | [], acc => acc
  | (x, k) :: r, acc => if (k == .free) = true then clF cells r ((x, (cells.lookup x).getD 0) :: acc) else clF cells r acc
theorem clF_names (cells : List (Str × Addr)) : ∀ (l : List (Str × NameKind)) (acc : List (Str × Addr)), (clF cells l acc).map (·.1) = ((l.filter (·.2 == .free)).map (·.1)).reverse ++ acc.map (·.1)
  | [], _ => rfl
  | (x, k) :: r, acc => by
    unfold clF
    by_cases h : (k == NameKind.free) = true
    · rw [if_pos h, clF_names cells r, List.filter_cons, if_pos h]
      simp
    · rw [if_neg h, clF_names cells r, List.filter_cons, if_neg h]
theorem clF_mem (cells : List (Str × Addr)) : ∀ (l : List (Str × NameKind)) (acc : List (Str × Addr)) (p : Str × Addr), p ∈ clF cells l acc → p ∈ acc ∨ p.2 = (cells.lookup p.1).getD 0
  | [], _, _, h => .inl h
  | (x, k) :: r, acc, p, h => by
    unfold clF at h
    by_cases q : (k == NameKind.free) = true
    · rw [if_pos q] at h
      rcases clF_mem cells r _ p h with h | h
      · rcases List.mem_cons.mp h with h | h
        · right; rw [h]
        · exact .inl h
      · exact .inr h
    · rw [if_neg q] at h
      exact clF_mem cells r _ p h
theorem closureFor_go {env : Env} (f : Str × NameKind → List (Str × Addr) → Sem (ForInStep (List (Str × Addr))))
    (hf : ∀ x k cs, f (x, k) cs = if (k == .free) = true then (do let a ← cellOf env x; pure (.yield ((x, a) :: cs))) else pure (.yield cs)) :
    ∀ (l : List (Str × NameKind)) (acc : List (Str × Addr)), (∀ p ∈ l, p.2 = .free → ∃ ca, env.cells.lookup p.1 = some ca) → forIn l acc f = pure (clF env.cells l acc)
  | [], _, _ => rfl
  | (x, k) :: r, acc, h => by
    rw [List.forIn_cons, hf]
    unfold clF
    by_cases q : (k == NameKind.free) = true
    · rw [if_pos q, if_pos q]
      obtain ⟨ca, hca⟩ := h (x, k) (.head _) (by simpa using q)
      have : cellOf env x = pure ca := by unfold cellOf; rw [hca]
      rw [this, pure_bind, pure_bind]
      rw [hca]
      exact closureFor_go f hf r _ fun p hp => h p (.tail _ hp)
    · rw [if_neg q, if_neg q, pure_bind]
      exact closureFor_go f hf r _ fun p hp => h p (.tail _ hp)
theorem closureFor_is {env : Env} {scope : Scope} (h : ∀ p ∈ scope.names, p.2 = .free → ∃ ca, env.cells.lookup p.1 = some ca) : closureFor scope env = pure (clF env.cells scope.names []) := by
  unfold closureFor
  refine (congrArg (· >>= fun r => pure r) (closureFor_go _ (fun x k cs => ?_) scope.names [] h)).trans (pure_bind _ _)
  cases q : k == NameKind.free <;> simp [q]
noncomputable def compSc (scope : Scope) (sc : Sc) : Sc := ⟨{ scope with names := scope.names.map fun (n, k) => if (k == .free && sc.s.kind == .function && sc.s.names.lookup n == some .cell) then (n, .cell) else (n, k) }, false⟩
/-- what a comprehension's scope must be -/
structure CompOk (sc : Sc) (scope : Scope) (fr : List Nat) : Prop where
  free : (scope.names.filter (·.2 == .free)).map (·.1) = fr.map nm
  nod : (fr.map nm).reverse.Nodup
  cel : ∀ k ∈ fr, sc.s.names.lookup (nm k) = some .cell
  nocell : ∀ p ∈ scope.names, p.2 ≠ .cell
  kind : scope.kind = .function
  names : ∀ p ∈ scope.names, p.2 = .local → scope.names.lookup p.1 = some .local
  lc : ∀ p ∈ (compSc scope sc).s.names, p.2 = .local → p.1 ∉ fr.map nm
  cc : ∀ p ∈ (compSc scope sc).s.names, p.2 = .cell → p.1 ∈ fr.map nm
  lt : ∀ k ∈ fr, k < 65
noncomputable def selL : List Nat → Loc → Loc
  | [], _ => []
  | k :: r, l => match lk k l with
    | some v => (k, v) :: selL r l
    | none => selL r l
theorem selL_lk {j : Nat} {v : AV} {l : Loc} {fr : List Nat} : lk j (selL fr l) = some v → j ∈ fr ∧ lk j l = some v := by
  induction fr with
  | nil => intro h; cases h
  | cons k r ih =>
    intro h
    rw [selL] at h
    cases q : lk k l with
    | none =>
      rw [q] at h
      exact ⟨.tail _ (ih h).1, (ih h).2⟩
    | some u =>
      rw [q] at h
      dsimp only at h
      rw [lk_cons] at h
      by_cases e : j = k
      · subst e
        rw [if_pos rfl] at h
        cases h
        exact ⟨.head _, q⟩
      · rw [if_neg e] at h
        exact ⟨.tail _ (ih h).1, (ih h).2⟩
noncomputable def appO (id : Nat) (x : AV) (os : Store) : Option Store := onList (os.get id) fun xs => bT (Nat.ble xs.length 2000) (os.set id (.list (xs ++ [x])))
theorem len_line {m n : Nat} (h : n ≤ 2000) (q : m = n) : m ≤ sizeLine := by rw [line_is]; omega
theorem len_line' {m n : Nat} (h : Nat.ble n 2000 = true) (q : m = n) : m ≤ sizeLine := len_line (ble_iff.mp h) q
noncomputable def compStep (tup : Bool) (a : AV → St → Option St) (t : St → Option (Bool × St)) (elt : St → Option (AV × St)) (id : Nat) (ih : AI → St → Option Store) (ai : AI) (s : St) : Option Store :=
  o1 (nextA tup ai s.os) fun r => nx r (fun v ai' os => o1 (withS s os (a v)) fun s1 => ob (t s1) fun b s2 => bIf b (ob (elt s2) fun x s3 => o1 (appO id x s3.os) fun os4 => withS s3 os4 fun s4 => ih ai' s4) (ih ai' s2)) (some s.os)
noncomputable def cCompL (tup : Bool) (a : AV → St → Option St) (t : St → Option (Bool × St)) (elt : St → Option (AV × St)) (id k : Nat) : AI → St → Option Store := Nat.rec (motive := fun _ => AI → St → Option Store) (fun _ _ => none)
  (fun _ ih => compStep tup a t elt id ih) k
noncomputable def compRun (tup : Bool) (a : AV → St → Option St) (t : St → Option (Bool × St)) (elt : St → Option (AV × St)) (fr : List Nat) (ai : AI) (s1 : St) : Option (AV × St) :=
  ob (s1.os.new (.list [])) fun v os1 => o1 (cCompL tup a t elt s1.os.n 200 ai ⟨selL fr s1.loc, os1⟩) fun os2 => mkS v s1 os2
noncomputable def cComp (tup : Bool) (fi : St → Option (AI × St)) (a : AV → St → Option St) (t : St → Option (Bool × St)) (elt : St → Option (AV × St)) (fr : List Nat) : St → Option (AV × St) := fun s => ob (fi s) fun ai s1 => compRun tup a t elt fr ai s1
noncomputable abbrev RefTs (C : Cx) (n : Nat) (sc : Sc) (ifs : List Expr) (t : St → Option (Bool × St)) : Prop :=
  RefT C n sc (fun env => forIn ifs true fun c r => if r = true then do let ok ← isTrue c env (eval c env); pure (ForInStep.yield ok) else pure (ForInStep.yield r)) (fun _ b x => x = b) t
noncomputable def cYes : St → Option (Bool × St) := fun s => some (true, s)
theorem RefTs.nil : RefTs C n sc [] cYes := by
  intro A env E s hk as st st' v Q R F e X K
  cases e
  exact wpAny_tests_nil (K as s.heap s.toks _ (List.prefix_refl _) X rfl)
theorem RefTs.one {c : Expr} {t} (h : RefB C n sc c t) : RefTs C n sc [c] t := by
  intro A env E s hk as st st' v Q R F e X K
  exact wpAny_tests_one (h R F e X K)
/-- the loop of a comprehension, in its own frame -/
theorem comp_loop {sc' : Sc} {target iter elt : Expr} {ifs : List Expr} {scope : Scope} {pos : Pos} {tup : Bool} {a t fe} (ht : Tg target tup) (ha : RefA C n sc' target a) (hts : RefTs C n sc' ifs t) (he : RefE C n sc' elt fe)
    {A : Around} {env : Env} {s : Shared} {hk : Heap} {as : List Addr} {st : St} {ai : AI} {it D : Addr} {fp : List Addr} {id : Nat} {os2 : Store} {RR : Result → Shared → Prop} (R : Room A n) (F : Frm sc' env)
    (X : Rel C hk as st (fmOf sc' env) s.heap) (I : ItAt C as ai it fp s.heap) (P : ∀ b ∈ fp, Apart hk s.heap as (fmOf sc' env) b) (hD : RV C as (.ref id) (.ref D)) (e : cCompL tup a t fe id 200 ai st = some os2)
    (K : ∀ as' h' tk st', as <+: as' → st'.os = os2 → Rel C hk as' st' (fmOf sc' env) h' → RR (.ok .next) { s with heap := h', toks := tk }) :
    codeAny (model prog C.w) A (.compLoop (.ListComp elt [⟨target, iter, ifs, 0⟩] scope pos) 0 (.ref it) (.ref D) env) RR s := by
  refine compLoop_any (ForInv C hk (fmOf sc' env) s as it fp (cCompL tup a t fe id) os2) (fun k s' H => ?_) 200 ⟨as, s.heap, s.toks, st, ai, rfl, List.prefix_refl _, X, I, P, e⟩
  cases H with
  | mk as2 h2 t2 st2 ai2 eq p2 X2 I2 P2 e2 =>
  subst eq
  cases k with
  | zero => exact noS e2
  | succ k =>
    refine o1_elim e2 fun r q3 e3 => ?_
    refine next_ok (s := { s with heap := h2, toks := t2 }) ht R.handled X2 I2 P2 q3 (fun hr h3 t3 X3 => ?_) fun w ai3 os3 hr as3 h3 t3 val p3 X3 I3 P3 hw => ?_
    · subst hr
      exact K as2 h3 t3 st2 p2 (Option.some.inj e3) X3
    · subst hr
      refine o1_elim e3 fun st4 q4 e4 => ob_elim e4 fun b st5 q5 e5 => ?_
      refine ha (s := { s with heap := h3, toks := t3 }) R F q4 (X3.wide F.nod) hw fun h4 t4 X4 => ?_
      have T4 := turn X3 I3 P3 F.nod (List.prefix_refl _) X4
      refine hts (s := { s with heap := h4, toks := t4 }) R F q5 (T4.1.wide F.nod) fun as5 h5 t5 ok p5 X5 hok => ?_
      have T5 := turn T4.1 T4.2.1 T4.2.2 F.nod p5 X5
      have p25 := p2.trans (p3.trans p5)
      cases hok
      refine bIf_elim e5 (fun hb e6 => ob_elim e6 fun x st6 q6 e7 => o1_elim e7 fun os7 q7 e8 => ?_) fun hb e6 => ?_
      · rw [if_pos hb]
        refine he (s := { s with heap := h5, toks := t5 }) R F q6 (T5.1.wide F.nod) fun as6 h6 t6 xv p6 X6 hx => ?_
        have T6 := turn T5.1 T5.2.1 T5.2.2 F.nod p6 X6
        refine onList_elim q7 fun xs q8 e9 => bT_elim e9 fun q9 qs => ?_
        refine T6.1.listE q8 (hD.mono (p25.trans p6)) fun D items m hDa hl hr => ?_
        refine wpAny_list_append_plain (s := { s with heap := h6, toks := t6 }) ⟨m, hl⟩ (fun h7 hl7 hs7 => ?_) (len_line' q9 hr.length)
        obtain ⟨m7, hl7⟩ := hl7
        have Y7 := (T6.1.wide F.nod).set qs hDa hs7.extBut hl7 ⟨_, m7, hl7, by
          rw [Array.toList_push]
          exact hr.append (.one hx)⟩ rfl ⟨_, q8, rfl⟩
        have T7 := turn T6.1 T6.2.1 T6.2.2 F.nod (List.prefix_refl _) Y7
        exact ⟨k, Nat.lt_succ_self _, as6, h7, t6, _, ai3, rfl, p25.trans p6, T7.1, T7.2.1, T7.2.2, e8⟩
      · rw [if_neg (by rw [hb]; decide)]
        exact ⟨k, Nat.lt_succ_self _, as5, h5, t5, st5, ai3, rfl, p25, T5.1, T5.2.1, T5.2.2, e6⟩
theorem comp_core {target iter elt : Expr} {ifs : List Expr} {scope : Scope} {pos : Pos} {tup : Bool} {a t fe} {fr : List Nat} (ht : Tg target tup) (W : CompOk sc scope fr) (ha : RefA C n (compSc scope sc) target a)
    (hts : RefTs C n (compSc scope sc) ifs t) (he : RefE C n (compSc scope sc) elt fe)
    {A : Around} {env : Env} {E : Value → Shared → Prop} {s : Shared} {hk : Heap} {as : List Addr} {st st' : St} {ai : AI} {it : Addr} {fp : List Addr} {v : AV} (R : Room A n) (F : Frm sc env) (X : Rel C hk as st (fmOf sc env) s.heap)
    (I : ItAt C as ai it fp s.heap) (P : ∀ b ∈ fp, Apart hk s.heap as (fmOf sc env) b) (e : compRun tup a t fe fr ai st = some (v, st')) {RR : Value → Addr → Result → Shared → Prop}
    (K : ∀ as' h' tk D Cc m', as <+: as' → Rel C hk as' st' (fmOf sc env) h' → RV C as' v (.ref D) → h'.Ns Cc m' → Apart hk h' as' (fmOf sc env) Cc → RR (.ref D) Cc (.ok .next) { s with heap := h', toks := tk }) :
    wpAny (model prog C.w) A (newList []) (fun acc s₃ => wpAny (model prog C.w) A (newFunctionEnv scope env.globals (clF env.cells scope.names []) [] env.qual none .none (some env)) (fun cenv s₄ =>
      codeAny (model prog C.w) A (.compStart (.ListComp elt [⟨target, iter, ifs, 0⟩] scope pos) 0 (.ref it) acc { cenv with scope := relabel scope env }) (RR acc cenv.locals) s₄) E s₃) E s := by
  refine ob_elim e fun u os1 q1 e => o1_elim e fun os2 q2 z => ?_
  have clm : ∀ x ca, (clF env.cells scope.names []).lookup x = some ca → env.cells.lookup x = some ca ∧ x ∈ fr.map nm := by
    intro x ca q
    have hm := mem_of_lookup q
    have hx : x ∈ (clF env.cells scope.names []).map (·.1) := List.mem_map.mpr ⟨_, hm, rfl⟩
    rw [clF_names, W.free] at hx
    have hx' : x ∈ fr.map nm := by simpa using hx
    rcases clF_mem _ _ _ _ hm with h | h
    · cases h
    · obtain ⟨k, hk, rfl⟩ := List.mem_map.mp hx'
      obtain ⟨cb, hcb⟩ := F.cc _ (W.cel k hk)
      have h' : ca = (env.cells.lookup (nm k)).getD 0 := h
      rw [hcb] at h'
      rw [h']
      exact ⟨hcb, hx'⟩
  have cls : ∀ x, x ∈ fr.map nm → ∃ ca, (clF env.cells scope.names []).lookup x = some ca := fun x hx => lookup_some_of_mem (by
    rw [clF_names, W.free]; simpa using hx)
  refine wpAny_newObj_type (wpAny_newFunctionEnv W.nocell (by intro y hy; simp at hy) (fun h₁ hns₁ hsb₁ => ?_) W.kind)
  dsimp only at hns₁ hsb₁ ⊢
  obtain ⟨Xl, hu⟩ := X.pushList q1 (items := #[]) rfl
  have hD : s.heap.push { cls := .type "list", dict := none, data := .seq ([] : List Value).toArray } = s.heap.push { cls := .type "list", data := .seq #[] } := rfl
  rw [hD] at hns₁ hsb₁ ⊢
  generalize hH2 : s.heap.push { cls := .type "list", data := .seq #[] } = H2 at hns₁ hsb₁ Xl ⊢
  have hC : H2.objs.size = s.heap.objs.size + 1 := by rw [← hH2, Heap.size_push]
  have old : ∀ b o, H2.get? b = some o → h₁.get? b = some o := fun b o e => hsb₁.extBut b o (Nat.ne_of_lt (Heap.lt_size e)) (Heap.get?_push_of_some _ e)
  have old0 : ∀ b o, s.heap.get? b = some o → h₁.get? b = some o := fun b o e => old b o (hH2 ▸ Heap.get?_push_of_some _ e)
  have X1 := Xl.ext old
  have fC : s.heap.get? H2.objs.size = none := by
    cases q : s.heap.get? H2.objs.size with
    | none => rfl
    | some o =>
      have := Heap.lt_size q
      rw [hC] at this
      exact absurd this (Nat.not_lt.mpr (Nat.le_succ _))
  generalize hcl : clF env.cells scope.names [] = cl at *
  have I1 : ItAt C (as ++ [s.heap.objs.size]) ai it fp h₁ := I.at pre1 fun b _ o e => old0 b o e
  have npre : ∀ b ∈ fp, b ∉ as ++ [s.heap.objs.size] := fun b hb q => by
    rcases List.mem_append.mp q with q | q
    · exact (P b hb).nas q
    · obtain ⟨o, eo⟩ := (P b hb).live
      rw [List.mem_singleton.mp q, fresh_size] at eo; cases eo
  have nCas : H2.objs.size ∉ as ++ [s.heap.objs.size] := fun q => by
    rcases List.mem_append.mp q with q | q
    · exact X.S.notIn fC q
    · have := List.mem_singleton.mp q
      rw [hC] at this
      exact Nat.succ_ne_self _ this
  have offfp : ∀ b ∈ fp, b ≠ H2.objs.size := fun b hb q => by
    obtain ⟨o, eo⟩ := (P b hb).live
    rw [q, fC] at eo; cases eo
  let hkc := hideAll s.heap (fp ++ as)
  have kget : ∀ b o, s.heap.get? b = some o → b ∉ as → b ∉ fp → hkc.get? b = some o := fun b o e h1 h2 => hideAll_get _ e fun q => (List.mem_append.mp q).elim h2 h1
  have kof : ∀ b o, hkc.get? b = some o → s.heap.get? b = some o := fun b o e => of_hideAll _ e
  have hkk : ∀ b o, hk.get? b = some o → hkc.get? b = some o := fun b o e => kget b o (X.S.keep b o e) (fun q => by rw [X.S.off b q] at e; cases e) (fun q => by rw [(P b q).nk] at e; cases e)
  have cellsOf : ∀ x ca, cl.lookup x = some ca → ca ∉ as ++ [s.heap.objs.size] ∧ ca ≠ H2.objs.size ∧ (∃ v, h₁.IsCell ca v) := fun x ca q => by
    have q' := (clm x ca q).1
    obtain ⟨v, hv⟩ := X1.clive x ca q'
    refine ⟨X1.cnot x ca q', ?_, v, hv⟩
    intro q2
    obtain ⟨o, eo⟩ := X.clive' (x := x) (ca := ca) q'
    rw [q2, fC] at eo; cases eo
  have XC : Rel C hkc (as ++ [s.heap.objs.size]) ⟨selL fr st.loc, os1⟩ ⟨H2.objs.size, cl, false⟩ h₁ := by
    refine ⟨⟨fun b o e => hkk b o (X.S.base b o e), fun b o e => old0 b o (kof b o e), fun b hb => ?_, X1.S.nodup, X1.S.size, X1.S.live, X1.S.obj, X1.S.wht⟩, ?_, nCas, ⟨_, hns₁, fun j w e => ?_⟩, fun x ca q => (cellsOf x ca q).1, fun x ca q => (cellsOf x ca q).2.1, fun x ca q => (cellsOf x ca q).2.2,
      (by intro q; cases q), fun x y ca q1 q2 => X1.apart x y ca (clm x ca q1).1 (clm y ca q2).1⟩
    · rcases List.mem_append.mp hb with q | q
      · exact hideAll_none _ (List.mem_append_right _ q)
      · rw [List.mem_singleton.mp q]
        cases q : hkc.get? s.heap.objs.size with
        | none => rfl
        | some o => have := kof _ _ q; rw [fresh_size] at this; cases this
    · cases q : hkc.get? H2.objs.size with
      | none => rfl
      | some o => have := kof _ _ q; rw [fC] at this; cases this
    · obtain ⟨hj, e2⟩ := selL_lk e
      obtain ⟨m, hm, hl⟩ := X1.ns
      obtain ⟨a1, val, hv, hr⟩ := hl j w e2
      refine ⟨a1, val, ?_, hr⟩
      obtain ⟨ca, hca⟩ := cls _ (List.mem_map.mpr ⟨j, hj, rfl⟩)
      unfold VarAt at hv ⊢
      rw [show (fmOf sc env).cl.lookup (nm j) = some ca from (clm _ _ hca).1] at hv
      show match cl.lookup (nm j) with | none => _ | some ca => _
      rw [hca]
      exact hv
  have PC : ∀ b ∈ fp, Apart hkc h₁ (as ++ [s.heap.objs.size]) ⟨H2.objs.size, cl, false⟩ b := fun b hb => ⟨npre b hb, offfp b hb, fun x ca q => (P b hb).nc x ca (clm x ca q).1, hideAll_none _ (List.mem_append_left _ hb), let ⟨o, eo⟩ := (P b hb).live; ⟨o, old0 b o eo⟩⟩
  have FC : Frm (compSc scope sc) { newEnv scope H2.objs.size env.globals cl env.qual none .none (some env) env.builtins with scope := relabel scope env } := by
    refine ⟨?_, ?_, ?_, fun x q => ?_, fun x q => ?_, F.glob, F.bi⟩
    · show relabel scope env = (compSc scope sc).s
      unfold relabel compSc Env.kindOf
      rw [F.eqv]
    · exact W.kind
    · show (cl.map (·.1)).Nodup
      rw [← hcl, clF_names, W.free]
      simpa using W.nod
    · show cl.lookup x = none
      cases q2 : cl.lookup x with
      | none => rfl
      | some ca => exact absurd (clm x ca q2).2 (W.lc (x, .local) (mem_of_lookup q) rfl)
    · exact cls x (W.cc (x, .cell) (mem_of_lookup q) rfl)
  have hfm : fmOf (compSc scope sc) { newEnv scope H2.objs.size env.globals cl env.qual none .none (some env) env.builtins with scope := relabel scope env } = ⟨H2.objs.size, cl, false⟩ := rfl
  have nodC : ((⟨H2.objs.size, cl, false⟩ : Fm).cl.map (·.1)).Nodup := FC.nod
  have accAt : RV C (as ++ [s.heap.objs.size]) (.ref st.os.n) (.ref s.heap.objs.size) := by
    obtain ⟨rfl, _⟩ := Store.new_eq q1
    exact hu
  have loop : ∀ s₃ : Shared, s₃ = { s with heap := h₁, toks := s.toks + ([] : List (Str × Value)).length } →
      codeAny (model prog C.w) A (.compLoop (.ListComp elt [⟨target, iter, ifs, 0⟩] scope pos) 0 (.ref it) (.ref s.heap.objs.size) { newEnv scope H2.objs.size env.globals cl env.qual none .none (some env) env.builtins with scope := relabel scope env })
        (RR (.ref s.heap.objs.size) H2.objs.size) s₃ := by
    rintro s₃ rfl
    refine comp_loop (s := { s with heap := h₁, toks := s.toks + ([] : List (Str × Value)).length }) ht ha hts he R FC XC I1 PC accAt q2 fun as2 h3 t3 st2 p2 ho X3 => ?_
    have keep3 : ∀ b o, s.heap.get? b = some o → b ∉ as → b ∉ fp → h3.get? b = some o := fun b o e h1 h2 => X3.S.keep b o (kget b o e h1 h2)
    have not3 : ∀ b, (∃ o, s.heap.get? b = some o) → b ∉ as → b ∉ fp → b ∉ as2 := fun b ⟨o, e⟩ h1 h2 q => by
      have := kget b o e h1 h2
      rw [X3.S.off b q] at this; cases this
    have pp : as <+: as2 := pre1.trans p2
    have Lfp : (fmOf sc env).L ∉ fp := fun q => (P _ q).nL rfl
    have cfp : ∀ x ca, (fmOf sc env).cl.lookup x = some ca → ca ∉ fp := fun x ca q q2 => (P _ q2).nc x ca q rfl
    have Y : Rel C hk as2 ⟨st.loc, st2.os⟩ (fmOf sc env) h3 := X.move (X3.S.weaken X.S.base hkk) pp (fun o e => keep3 _ o e X.notL Lfp) (not3 _ X.liveL X.notL Lfp) fun x ca q => ⟨fun o e => keep3 ca o e (X.cnot x ca q) (cfp x ca q), not3 ca (X.clive' q) (X.cnot x ca q) (cfp x ca q)⟩
    obtain ⟨mC, hmC, _⟩ := X3.ns
    subst ho
    cases z
    refine K as2 h3 t3 _ _ mC pp Y (hu.mono p2) hmC ⟨X3.notL, fun q => ?_, fun x ca q q2 => ?_, X.S.notK fC, X3.liveL⟩
    · obtain ⟨o, eo⟩ := X.liveL
      have q' : H2.objs.size = (fmOf sc env).L := q
      rw [← q', fC] at eo; cases eo
    · obtain ⟨o, eo⟩ := X.clive' q
      have q' : H2.objs.size = ca := q2
      rw [← q', fC] at eo; cases eo
  exact codeAny_compStart_list (loop _ rfl) (self_ok I1 (loop _ rfl))
theorem closure_of {scope : Scope} {fr : List Nat} {env : Env} (F : Frm sc env) (W : CompOk sc scope fr) : closureFor scope env = pure (clF env.cells scope.names []) := closureFor_is fun p hp hf => by
  have : p.1 ∈ fr.map nm := by
    rw [← W.free]
    exact List.mem_map.mpr ⟨p, List.mem_filter.mpr ⟨hp, by simp [hf]⟩, rfl⟩
  obtain ⟨k, hk, e⟩ := List.mem_map.mp this
  rw [← e]
  exact F.cc _ (W.cel k hk)
theorem RefE.comp {target iter elt : Expr} {ifs : List Expr} {scope : Scope} {pos : Pos} {tup : Bool} {fi a t fe} {fr : List Nat} (hi : RefI C n sc iter fi) (ht : Tg target tup) (W : CompOk sc scope fr) (ha : RefA C n (compSc scope sc) target a)
    (hts : RefTs C n (compSc scope sc) ifs t) (he : RefE C n (compSc scope sc) elt fe) (hs : ∀ env x, foldedSetIterable iter env x = pure x := by intro _ _; rfl) :
    RefE C n sc (.ListComp elt [⟨target, iter, ifs, 0⟩] scope pos) (cComp tup fi a t fe fr) := by
  intro A env E s hk as st st' v Q R F e X K
  refine ob_elim e fun ai s1 q1 e => ?_
  show wpAny _ A (eval (.ListComp elt [⟨target, iter, ifs, 0⟩] scope pos) env) Q E s
  rw [eval_ListComp]
  refine wpAny_comprehension_free (use := none) rfl (hs env) (closure_of F W) W.kind W.names ?_
  refine hi R F q1 X fun as1 h1 t1 it fp p1 X1 I1 P1 => ?_
  refine comp_core (s := { s with heap := h1, toks := t1 }) (RR := fun acc Cc => compPost (model prog C.w) A E none Q acc Cc) ht W ha hts he R F X1 I1 P1 e fun as2 h2 t2 D Cc m2 p2 X2 hv hn hC => ?_
  refine ⟨m2, hn, fun h3 hs3 => ?_⟩
  exact K as2 h3 t2 _ (p1.trans p2) (X2.touch (fp := [Cc]) (fun b hb => by rw [List.mem_singleton.mp hb]; exact hC) fun b o hb e => hs3.extBut b o (fun q => hb (q ▸ .head _)) e) hv
theorem RefS.asgComp {k : Nat} {p : Pos} {target iter elt : Expr} {ifs : List Expr} {scope : Scope} {pos spos : Pos} {tup : Bool} {fi a t fe} {fr : List Nat} (hi : RefI C n sc iter fi) (ht : Tg target tup) (W : CompOk sc scope fr) (ha : RefA C n (compSc scope sc) target a)
    (hts : RefTs C n (compSc scope sc) ifs t) (he : RefE C n (compSc scope sc) elt fe) (hk : Wr sc k)
    (hsw : ∀ env : Env, env.scope = sc.s → swapsWith (.ListComp elt [⟨target, iter, ifs, 0⟩] scope pos) (some (.Name (nm k) p)) spos.line env = pure true) (hs : ∀ env x, foldedSetIterable iter env x = pure x := by intro _ _; rfl) :
    RefS C n sc (.Assign [.Name (nm k) p] (.ListComp elt [⟨target, iter, ifs, 0⟩] scope pos) spos) (cAsg (aName k) (cComp tup fi a t fe fr)) := by
  intro A env E s hk' as st st' v Q R F e X K
  obtain ⟨u, s1, q1, q2, rfl⟩ := cAsg_eq e
  rw [aName_eq] at q2
  cases q2
  refine ob_elim q1 fun ai s2 q3 q1 => ?_
  show wpAny _ A (exec (.Assign [.Name (nm k) p] (.ListComp elt [⟨target, iter, ifs, 0⟩] scope pos) spos) env) Q E s
  rw [exec_Assign_Name_used _ _ _ _ (hsw env F.eqv)]
  refine wpAny_bind (wpAny_standAt (wpAny_bind ?_))
  show wpAny _ A (do let _ ← comprehension (.ListComp elt [⟨target, iter, ifs, 0⟩] scope pos) scope env _ (newList []) false (eval iter env) (some (assign (.Name (nm k) p) env))) _ _ s
  refine wpAny_bind (wpAny_mono (wpAny_comprehension_free (use := some (assign (.Name (nm k) p) env)) (Q := fun _ s' => Q .next s') rfl (hs env) (closure_of F W) W.kind W.names
    (hi R F q3 X fun as1 h1 t1 it fp p1 X1 I1 P1 => ?_)) (fun _ s' hq => wpAny_pure (wpAny_pure hq)) fun _ _ e => e)
  refine comp_core (s := { s with heap := h1, toks := t1 }) (RR := fun acc Cc => compPost (model prog C.w) A E (some (assign (.Name (nm k) p) env)) (fun _ s' => Q .next s') acc Cc) ht W ha hts he R F X1 I1 P1 q1 fun as2 h2 t2 D Cc m2 p2 X2 hv hn hC => ?_
  show wpAny _ A (assign (.Name (nm k) p) env (.ref D)) _ _ _
  refine wpAny_assign_Name (storeAny F hk (X2.wide F.nod) hv fun h3 t3 X3 => ?_)
  have nC : Cc ∉ Rel.fa (fmOf sc env) := fun q => by
    rcases Rel.fa_mem q with q | ⟨_, q⟩
    · exact hC.nL q
    · obtain ⟨x, hx⟩ := lookup_nodup (l := (fmOf sc env).cl) F.nod q
      exact hC.nc x Cc hx rfl
  have kC : ∀ o, h2.get? Cc = some o → h3.get? Cc = some o := fun o e => X3.S.keep Cc o (Rel.allGet e hC.nas nC)
  refine ⟨m2, hn.at' kC, fun h4 hs4 => ?_⟩
  have X4 := X2.back F.nod X3
  refine K as2 h4 t3 _ (p1.trans p2) (X4.touch (fp := [Cc]) (fun b hb => ?_) fun b o hb e => hs4.extBut b o (fun q => hb (q ▸ .head _)) e) rfl
  rw [List.mem_singleton.mp hb]
  exact hC.at fun o e => ⟨o, kC o e⟩
end
end Mine
end
end
section
set_option maxRecDepth 100000
set_option linter.unusedVariables false
set_option linter.unusedSectionVars false
set_option autoImplicit false
set_option genSizeOf false
set_option genInjectivity false
noncomputable section
namespace Mine
open PySem PySem.W PyProof.Rows
section
variable {C : Cx} {n : Nat} {sc : Sc}
/-! numbers -/
noncomputable def intsA : List AV → Option (List Int)
  | [] => some []
  | a :: r => onInt a fun i => o1 (intsA r) fun l => some (i :: l)
theorem intsA_are {as : List Addr} {xs : List AV} : ∀ {vs : List Value} {ns : List Int}, intsA xs = some ns → RVs C as xs vs → IntsAre vs ns := by
  induction xs with
  | nil => intro vs ns e h; cases e; exact rvs0 h .nil
  | cons a r ih =>
    intro vs ns e h
    refine onInt_elim e fun i hi e => o1_elim e fun l q z => ?_
    obtain ⟨v, t, e2, h1, h2⟩ := h
    cases z
    subst hi e2
    exact rvInt h1 fun tk => .cons _ tk (ih q h2)
theorem IntsAre.allInts {vs : List Value} {ns : List Int} (h : IntsAre vs ns) : ∀ v ∈ vs, ∃ a t, v = .int a t := by
  induction h with
  | nil => intro v hv; cases hv
  | cons n t _ ih =>
    intro v hv
    rcases List.mem_cons.mp hv with q | q
    · exact ⟨n, t, q⟩
    · exact ih v q
theorem IntsAre.len {vs : List Value} {ns : List Int} (h : IntsAre vs ns) : vs.length = ns.length := by
  induction h with
  | nil => rfl
  | cons n t _ ih => simp [ih]
noncomputable def allSmall : List Int → Bool
  | [] => true
  | a :: r => match smallZ a with
    | true => allSmall r
    | false => false
theorem allSmall_iff {l : List Int} : allSmall l = true → ∀ x ∈ l, smallZ x = true := by
  induction l with
  | nil => intro _ x hx; cases hx
  | cons a r ih =>
    intro h x hx
    cases q : smallZ a with
    | false => rw [allSmall, q] at h; cases h
    | true =>
      rw [allSmall, q] at h
      rcases List.mem_cons.mp hx with e | e
      · rw [e]; exact q
      · exact ih h x e
noncomputable def sumZ : List Int → Int
  | [] => 0
  | a :: r => a + sumZ r
theorem sumZ_eq : ∀ l : List Int, sumZ l = l.sum
  | [] => rfl
  | a :: r => by simp [sumZ, sumZ_eq r]
noncomputable def allSint : List AV → Option Unit
  | [] => some ()
  | a :: r => onSint a (allSint r)
theorem allSint_are {as : List Addr} {xs : List AV} : ∀ {vs : List Value} {u : Unit}, allSint xs = some u → RVs C as xs vs → ∃ ns, IntsAre vs ns ∧ ∀ x ∈ ns, 0 ≤ x ∧ x < 1048576 := by
  induction xs with
  | nil => intro vs u e h; exact rvs0 h ⟨[], .nil, fun x hx => by cases hx⟩
  | cons a r ih =>
    intro vs u e h
    refine onSint_elim e fun hi e => ?_
    obtain ⟨v, t, e2, h1, h2⟩ := h
    subst hi e2
    obtain ⟨i, tk, rfl, b⟩ := h1
    obtain ⟨ns, hn, hb⟩ := ih e h2
    refine ⟨i :: ns, .cons i tk hn, fun x hx => (List.mem_cons.mp hx).elim (fun q => q ▸ b) (hb x)⟩
noncomputable def oSum (a : List AV) (os : Store) : Option (AV × Store) :=
  on1 a fun a => onRef a fun i => onList (os.get i) fun xs => bT (Nat.ble xs.length 200) (alt
    (o1 (intsA xs) fun ns => bT (allSmall ns) (some (.int (sumZ ns), os)))
    (o1 (allSint xs) fun _ => some (.aint, os)))
theorem sum_any {A : Around} {E : Value → Shared → Prop} {s : Shared} {l : Addr} {items : Array Value} {ns : List Int} {Q : Value → Shared → Prop} (hh : A.handled = none) (hl : s.heap.IsList l items) (hi : IntsAre items.toList ns) (hfit : PyProof.Rows.SumFits ns)
    (h : ∀ h' tk t', (∀ b o, s.heap.get? b = some o → h'.get? b = some o) → Q (.int ns.sum t') { s with heap := h', toks := tk }) : wpAny (model prog C.w) A (call (.builtin "sum") [.ref l]) Q E s := by
  have hall : AllInts items := fun v hv => IntsAre.allInts hi v (by simpa using hv)
  obtain ⟨xs, rfl⟩ := hall.items
  have hns : ns = xs.toList.map (·.1) := by
    have h1 := IntsAre.numsOf hi
    rw [nums_intItems] at h1
    exact h1.symm
  refine sum_intList hh hl (fun j hj => ?_) fun h' tk t' hk => ?_
  · rw [numAt_eq, preSum_eq, ← hns]; exact hfit j (by rw [hns]; simpa using hj)
  · have := h h' tk t' hk
    rw [preSum_eq, ← hns, List.take_of_length_le (by rw [hns]; simp)]; exact this
theorem len_200 {xs : List AV} {items : Array Value} {as : List Addr} {ns : List Int} (q : Nat.ble xs.length 200 = true) (hr : RVs C as xs items.toList) (hi : IntsAre items.toList ns) : ns.length ≤ 200 :=
  by have h1 := IntsAre.len hi; have h2 := hr.length; have h3 := ble_iff.mp q; omega
theorem small_sum {ns : List Int} (h : ns.length ≤ 200) (hb : ∀ x ∈ ns, smallZ x = true) : PyProof.Rows.SumFits ns :=
  sumFits_small (fun x hx => by have := smallZ_le (hb x hx); omega) (by omega)
theorem sint_sum {ns : List Int} (h : ns.length ≤ 200) (hb : ∀ x ∈ ns, 0 ≤ x ∧ x < 1048576) : PyProof.Rows.SumFits ns :=
  sumFits_small (fun x hx => by have := hb x hx; omega) (by omega)
theorem oSum_ok : CallOk C (fun vs => call (.builtin "sum") vs) oSum := by
  intro A E s hk as st L a v x os' Q hh hu e X hx K
  refine on1_elim e fun y ha e => onRef_elim e fun i hy e => onList_elim e fun xs q e => bT_elim e fun qb z => ?_
  subst ha hy
  refine rvs1 hx fun w hw => X.listE q hw fun a items m ha hl hr => ?_
  refine alt_elim z (fun e => o1_elim e fun ns q2 e => bT_elim e fun q3 z => ?_) fun e => o1_elim e fun u q2 z => ?_
  · have hi := intsA_are q2 hr
    exact sum_any hh hl.isList hi (small_sum (len_200 qb hr hi) (allSmall_iff q3)) fun h' tk t' hk => kRet z K as h' tk _ (List.prefix_refl _) (X.ext hk) ⟨t', by rw [sumZ_eq]⟩
  · obtain ⟨ns, hi, hb⟩ := allSint_are q2 hr
    exact sum_any hh hl.isList hi (sint_sum (len_200 qb hr hi) hb) fun h' tk t' hk => kRet z K as h' tk _ (List.prefix_refl _) (X.ext hk) ⟨_, t', rfl⟩
noncomputable def maxZ : Int → List Int → Int
  | a, [] => a
  | a, b :: r => match Z.ltB a b with
    | true => maxZ b r
    | false => maxZ a r
theorem maxZ_cons (a b : Int) (r : List Int) : maxZ a (b :: r) = maxZ (if a < b then b else a) r := by
  rw [maxZ]
  cases q : Z.ltB a b with
  | true => rw [if_pos ((Z.ltB_iff a b).mp q)]
  | false => rw [if_neg fun z => by rw [(Z.ltB_iff a b).mpr z] at q; cases q]
theorem maxZ_ok (l : List Int) : ∀ a : Int, maxZ a l ∈ a :: l ∧ ∀ x ∈ a :: l, x ≤ maxZ a l := by
  induction l with
  | nil => intro a; exact ⟨.head _, fun x hx => by simp at hx; rw [hx]; exact Int.le_refl _⟩
  | cons b r ih =>
    intro a
    rw [maxZ_cons]
    obtain ⟨h1, h2⟩ := ih (if a < b then b else a)
    have ha : a ≤ (if a < b then b else a) ∧ b ≤ (if a < b then b else a) ∧ ((if a < b then b else a) = a ∨ (if a < b then b else a) = b) := by split <;> omega
    generalize (if a < b then b else a) = c at *
    refine ⟨?_, fun x hx => ?_⟩
    · rcases List.mem_cons.mp h1 with e | e
      · rw [e]; rcases ha.2.2 with q | q <;> rw [q]
        · exact .head _
        · exact .tail _ (.head _)
      · exact .tail _ (.tail _ e)
    · have hc := h2 c (.head _)
      rcases List.mem_cons.mp hx with e | e
      · rw [e]; exact Int.le_trans ha.1 hc
      · rcases List.mem_cons.mp e with e | e
        · rw [e]; exact Int.le_trans ha.2.1 hc
        · exact h2 x (.tail _ e)
noncomputable def oMax (a : List AV) (os : Store) : Option (AV × Store) := alt
  (on1 a fun a => onRef a fun i => onList (os.get i) fun xs => bT (Nat.ble xs.length 200) (o1 (intsA xs) fun l => onCons l fun n ns => some (.int (maxZ n ns), os)))
  (onPair a fun a b => onInt a fun x => alt
    (onInt b fun y => bIf (Z.ltB x y) (some (.int y, os)) (some (.int x, os)))
    (onNpos b (bT (Z.leB 0 x) (some (.int x, os)))))
theorem maxBest {n : Int} {ns : List Int} {ys : Array (Int × Nat)} (hns : n :: ns = ys.toList.map (·.1)) : numAt ys (argBest (fun i j => decide (numAt ys i > numAt ys j)) (ys.size - 1)) = maxZ n ns := by
  have hsz : 0 < ys.size := by
    have := congrArg List.length hns
    simp at this; omega
  obtain ⟨h1, h2⟩ := argBest_gt (numAt ys) (ys.size - 1)
  obtain ⟨h3, h4⟩ := maxZ_ok ns n
  refine Int.le_antisymm (h4 _ ?_) ?_
  · rw [hns, numAt_eq]; exact getD_mem (by rw [List.length_map, Array.length_toList]; omega)
  · obtain ⟨j, hj, e⟩ := mem_getD h3
    rw [← e, hns, ← numAt_eq]
    refine h2 j ?_
    rw [hns, List.length_map, Array.length_toList] at hj
    omega
theorem max_any {A : Around} {E : Value → Shared → Prop} {s : Shared} {l : Addr} {items : Array Value} {n : Int} {ns : List Int} {Q : Value → Shared → Prop} (hh : A.handled = none) (hl : s.heap.IsList l items) (hi : IntsAre items.toList (n :: ns))
    (h : ∀ h' tk t', (∀ b o, s.heap.get? b = some o → h'.get? b = some o) → Q (.int (maxZ n ns) t') { s with heap := h', toks := tk }) : wpAny (model prog C.w) A (call (.builtin "max") [.ref l]) Q E s := by
  have hall : AllInts items := fun v hv => IntsAre.allInts hi v (by simpa using hv)
  obtain ⟨ys, rfl⟩ := hall.items
  have hns : n :: ns = ys.toList.map (·.1) := by
    have h1 := IntsAre.numsOf hi
    rw [nums_intItems] at h1
    exact h1.symm
  have hsz : 0 < ys.size := by
    have := congrArg List.length hns
    simp at this; omega
  refine max_intList hh hl hsz fun v h' tk hv hk => ?_
  obtain ⟨t, rfl⟩ := intItems_at hv
  rw [maxBest hns]
  exact h h' tk t hk
theorem max_two {A : Around} {E : Value → Shared → Prop} {s : Shared} {x y : Int} {t u : Tok} {Q : Value → Shared → Prop} (hh : A.handled = none)
    (h : ∀ h' tk, (∀ b o, s.heap.get? b = some o → h'.get? b = some o) → (y > x → Q (.int y u) { s with heap := h', toks := tk }) ∧ (¬ y > x → Q (.int x t) { s with heap := h', toks := tk })) :
    wpAny (model prog C.w) A (call (.builtin "max") [.int x t, .int y u]) Q E s := by
  refine max_two_ints hh fun h' tk hk => ?_
  split
  · rename_i q; exact (h h' tk hk).1 q
  · rename_i q; exact (h h' tk hk).2 q
theorem ltB_no {x y : Int} (q : Z.ltB x y = false) : ¬ y > x := fun z => by rw [(Z.ltB_iff x y).mpr z] at q; cases q
theorem npos_no {x i : Int} (q : Z.leB 0 x = true) (hi : i ≤ 0) : ¬ i > x := by have := (Z.leB_iff 0 x).mp q; omega
theorem oMax_ok : CallOk C (fun vs => call (.builtin "max") vs) oMax := by
  intro A E s hk as st L a v x os' Q hh hu e X hx K
  refine alt_elim e (fun e => on1_elim e fun y ha e => onRef_elim e fun i hy e => onList_elim e fun xs q e => bT_elim e fun qb e => o1_elim e fun l q2 e => onCons_elim e fun n ns hl z => ?_)
    fun e => onPair_elim e fun y1 y2 ha e => onInt_elim e fun i hy z => ?_
  · subst ha hy hl
    refine rvs1 hx fun w hw => X.listE q hw fun a items m ha hl hr => ?_
    exact max_any hh hl.isList (intsA_are q2 hr) fun h' tk t hk => kRet z K as h' tk _ (List.prefix_refl _) (X.ext hk) ⟨t, rfl⟩
  · subst ha hy
    refine rvs2 hx fun w w2 hw hw2 => rvInt hw fun t => ?_
    refine alt_elim z (fun e => onInt_elim e fun j hj z5 => ?_) fun e => onNpos_elim e fun hj e => bT_elim e fun q3 z5 => ?_
    · subst hj
      refine rvInt hw2 fun u => ?_
      refine max_two hh fun h' tk hk => ?_
      refine bIf_elim z5 (fun q z => ?_) fun q z => ?_
      · exact ⟨fun _ => kRet z K as h' tk _ (List.prefix_refl _) (X.ext hk) ⟨u, rfl⟩, fun n => absurd ((Z.ltB_iff _ _).mp q) n⟩
      · exact ⟨fun n => absurd n (ltB_no q), fun _ => kRet z K as h' tk _ (List.prefix_refl _) (X.ext hk) ⟨t, rfl⟩⟩
    · subst hj
      obtain ⟨i', u, rfl, hi⟩ := hw2
      exact max_two hh fun h' tk hk => ⟨fun n => absurd n (npos_no q3 hi), fun _ => kRet z5 K as h' tk _ (List.prefix_refl _) (X.ext hk) ⟨t, rfl⟩⟩
/-- % by a small positive number, // by one -/
noncomputable def posSmall (i : Int) : Bool := match i with
  | .ofNat (k + 1) => Nat.ble (k + 1) 1048576
  | _ => false
theorem posSmall_iff {i : Int} (h : posSmall i = true) : 0 < i ∧ i ≤ 1048576 := by
  cases i with
  | negSucc k => cases h
  | ofNat k =>
    cases k with
    | zero => cases h
    | succ k =>
      have : k + 1 ≤ 1048576 := ble_iff.mp h
      show (0 : Int) < ((k + 1 : Nat) : Int) ∧ ((k + 1 : Nat) : Int) ≤ 1048576
      omega
noncomputable def pMod (a b : AV) : Option AV := onInt b fun j => alt
  (onInt a fun i => onNat i fun m => onNat j fun k => onSucc k fun k' => some (.int (.ofNat (m % (k' + 1))))) (alt
  (onAint a (bT (posSmall j) (some .sint))) (alt
  (onRes a fun r _ => bT (eqI j 4) (some (.int (.ofNat r)))) (alt
  (onBig a fun c _ => bT (eqI j 4) (some (.atl c)))
  (onQuo a fun q => bT (eqI j 3) (some (.idx q))))))
noncomputable def pDiv (a b : AV) : Option AV := onInt b fun j => alt
  (onInt a fun i => onNat i fun m => onNat j fun k => onSucc k fun k' => bT (Nat.ble k' 10000) (some (.int (.ofNat (m / (k' + 1)))))) (alt
  (onRes a fun _ q => bT (eqI j 4) (some (.quo q)))
  (onBig a fun _ q => bT (eqI j 4) (some (.quo q))))
theorem eqI_is {a b : Int} (h : eqI a b = true) : a = b := by
  rw [eqI_eq] at h; simpa using h
theorem succ_ne (j : Nat) : ((j + 1 : Nat) : Int) ≠ 0 := by omega
theorem fmod_nat (i j : Nat) : ((i : Nat) : Int).fmod ((j + 1 : Nat) : Int) = ((i % (j + 1) : Nat) : Int) := by
  rw [Int.fmod_eq_emod_of_nonneg _ (by omega)]
  simp
theorem fdiv_nat (i j : Nat) : ((i : Nat) : Int).fdiv ((j + 1 : Nat) : Int) = ((i / (j + 1) : Nat) : Int) := by
  rw [Int.fdiv_eq_ediv_of_nonneg _ (by omega)]
  simp
theorem fmod_sint {i b : Int} (h : 0 < b ∧ b ≤ 1048576) : 0 ≤ i.fmod b ∧ i.fmod b < 1048576 := by
  rw [Int.fmod_eq_emod_of_nonneg _ (by omega)]
  exact ⟨Int.emod_nonneg _ (by omega), Int.lt_of_lt_of_le (Int.emod_lt_of_pos _ h.1) h.2⟩
theorem fmod4 (i : Int) : i.fmod 4 = i % 4 := Int.fmod_eq_emod_of_nonneg _ (by decide)
theorem fmod3 (i : Int) : i.fmod 3 = i % 3 := Int.fmod_eq_emod_of_nonneg _ (by decide)
theorem fdiv4 (i : Int) : i.fdiv 4 = i / 4 := Int.fdiv_eq_ediv_of_nonneg _ (by decide)
theorem mod_by {A : Around} {E : Value → Shared → Prop} {s : Shared} {i j d : Int} {t u : Tok} {Q : Value → Shared → Prop} (q : eqI j d = true) (hd : d ≠ 0) (K : Q (.int (i.fmod d) s.toks) { s with toks := s.toks + 1 }) :
    wpAny (model prog C.w) A (binaryOp .Mod (.int i t) (.int j u)) Q E s := by cases eqI_is q; exact PyProof.Rows.mod_int hd K
theorem mod_pos {A : Around} {E : Value → Shared → Prop} {s : Shared} {i j : Int} {t u : Tok} {Q : Value → Shared → Prop} (q : posSmall j = true) (K : ∀ i', 0 ≤ i' ∧ i' < 1048576 → Q (.int i' s.toks) { s with toks := s.toks + 1 }) :
    wpAny (model prog C.w) A (binaryOp .Mod (.int i t) (.int j u)) Q E s :=
  PyProof.Rows.mod_int (by have := posSmall_iff q; omega) (K _ (fmod_sint (posSmall_iff q)))
theorem RefE.mod {l r : Expr} {pos : Pos} {f g} (hf : RefE C n sc l f) (hg : RefE C n sc r g) : RefE C n sc (.BinOp l .Mod r pos) (cBin (opP pMod) f g) := by
  refine RefE.bin (OpOk.pure ?_) hf hg
  intro A E s as a b v x y Q hh hu e hx hy K
  refine onInt_elim e fun j hj e1 => ?_
  subst hj
  refine rvInt hy fun u => ?_
  refine alt_elim e1 (fun e => onInt_elim e fun i hi e => onNat_elim e fun m hm e => onNat_elim e fun k hk e => onSucc_elim e fun k' hk' z => ?_)
    fun e => alt_elim e (fun e => onAint_elim e fun hi e => bT_elim e fun q z => ?_)
    fun e => alt_elim e (fun e => onRes_elim e fun r k hi e => bT_elim e fun q z => ?_)
    fun e => alt_elim e (fun e => onBig_elim e fun c k hi e => bT_elim e fun q z => ?_)
    fun e => onQuo_elim e fun k hi e => bT_elim e fun q z => ?_
  · subst hi hm hk hk'
    exact rvInt hx fun t => PyProof.Rows.mod_int (succ_ne k') (kRetP z K _ _ ⟨s.toks, congrArg (fun z => Value.int z s.toks) (fmod_nat m k')⟩)
  · subst hi
    obtain ⟨i, t, rfl⟩ := hx
    exact mod_pos q fun i' hb => kRetP z K _ _ ⟨i', s.toks, rfl, hb⟩
  · subst hi
    obtain ⟨t, rfl, hr⟩ := hx
    exact mod_by q (by decide) (kRetP z K _ _ ⟨s.toks, congrArg (fun z => Value.int z s.toks) ((fmod4 _).trans hr)⟩)
  · subst hi
    obtain ⟨t, rfl, hr⟩ := hx
    exact mod_by q (by decide) (kRetP z K _ _ ⟨(C.h k).fmod 4, s.toks, rfl, (fmod4 _).symm ▸ hr⟩)
  · subst hi
    obtain ⟨t, rfl⟩ := hx
    exact mod_by q (by decide) (kRetP z K _ _ ⟨s.toks, congrArg (fun z => Value.int z s.toks) (fmod3 _)⟩)
theorem pylong_small {j : Nat} (q : Nat.ble j 10000 = true) (i : Int) : Builtin.divisionGoesByPylong i ((j + 1 : Nat) : Int) = false := by
  refine PyProof.noPylong_small ?_
  show (((j + 1 : Nat) : Int)).natAbs < _
  have := ble_iff.mp q
  omega
theorem div4 {A : Around} {E : Value → Shared → Prop} {s : Shared} {i j : Int} {t u : Tok} {Q : Value → Shared → Prop} (q : eqI j 4 = true) (K : Q (.int (i / 4) s.toks) { s with toks := s.toks + 1 }) :
    wpAny (model prog C.w) A (binaryOp .FloorDiv (.int i t) (.int j u)) Q E s := by
  cases eqI_is q
  exact PyProof.Rows.floordiv_int (by decide) (fdiv4 i ▸ K) (.inl (PyProof.noPylong_small (by decide)))
theorem RefE.floordiv {l r : Expr} {pos : Pos} {f g} (hf : RefE C n sc l f) (hg : RefE C n sc r g) : RefE C n sc (.BinOp l .FloorDiv r pos) (cBin (opP pDiv) f g) := by
  refine RefE.bin (OpOk.pure ?_) hf hg
  intro A E s as a b v x y Q hh hu e hx hy K
  refine onInt_elim e fun j hj e1 => ?_
  subst hj
  refine rvInt hy fun u => ?_
  refine alt_elim e1 (fun e => onInt_elim e fun i hi e => onNat_elim e fun m hm e => onNat_elim e fun k hk e => onSucc_elim e fun k' hk' e => bT_elim e fun q z => ?_)
    fun e => alt_elim e (fun e => onRes_elim e fun r k hi e => bT_elim e fun q z => ?_)
    fun e => onBig_elim e fun c k hi e => bT_elim e fun q z => ?_
  · subst hi hm hk hk'
    exact rvInt hx fun t => PyProof.Rows.floordiv_int (succ_ne k') (kRetP z K _ _ ⟨s.toks, congrArg (fun z => Value.int z s.toks) (fdiv_nat m k')⟩) (.inl (pylong_small q _))
  · subst hi
    obtain ⟨t, rfl, hr⟩ := hx
    exact div4 q (kRetP z K _ _ ⟨s.toks, rfl⟩)
  · subst hi
    obtain ⟨t, rfl, hr⟩ := hx
    exact div4 q (kRetP z K _ _ ⟨s.toks, rfl⟩)
/-- - with the heaps' numbers -/
noncomputable def pSub2 (a b : AV) : Option AV := onInt a fun i => alt (onInt b fun j => some (.int (i - j))) (onAtl b fun c => bT (Z.leB i (.ofNat c)) (some .npos))
theorem npos_sub {a i : Int} {c : Nat} (q : Z.leB a (.ofNat c) = true) (hi : (c : Int) ≤ i) : a - i ≤ 0 := by
  have : a ≤ (c : Int) := (Z.leB_iff _ _).mp q
  omega
theorem pSub2_ok : OpOk C (binaryOp .Sub) (opP pSub2) := by
  refine OpOk.pure ?_
  intro A E s as a b v x y Q hh hu e hx hy K
  refine onInt_elim e fun i hi e1 => ?_
  subst hi
  refine rvInt hx fun t => alt_elim e1 (fun e => onInt_elim e fun j hj z => ?_) fun e => onAtl_elim e fun c hc e => bT_elim e fun q z => ?_
  · subst hj
    exact rvInt hy fun u => PyProof.Rows.sub_int (kRetP z K _ _ ⟨_, rfl⟩)
  · subst hc
    obtain ⟨j, u, rfl, hi⟩ := hy
    exact PyProof.Rows.sub_int (kRetP z K _ _ ⟨_, _, rfl, npos_sub q hi⟩)
theorem RefE.sub2 {l r : Expr} {pos : Pos} {f g} (hf : RefE C n sc l f) (hg : RefE C n sc r g) : RefE C n sc (.BinOp l .Sub r pos) (cBin (opP pSub2) f g) := RefE.bin pSub2_ok hf hg
/-- + with a number of no account -/
noncomputable def opAddA (a b : AV) (os : Store) : Option (AV × Store) := onInt a fun _ => onAint b (some (.aint, os))
theorem RefE.addA {l r : Expr} {pos : Pos} {f g} (hf : RefE C n sc l f) (hg : RefE C n sc r g) : RefE C n sc (.BinOp l .Add r pos) (cBin opAddA f g) := by
  refine RefE.bin ?_ hf hg
  intro A E s hk as st L a b v x y os' Q hh hu e X hx hy K
  refine onInt_elim e fun i hi e => onAint_elim e fun hb z => ?_
  subst hi hb
  obtain ⟨i, u, rfl⟩ := hy
  exact rvInt hx fun t => wpAny_add_int (kRet z K as _ _ _ (List.prefix_refl _) X ⟨_, _, rfl⟩)
noncomputable def oLen (a : List AV) (os : Store) : Option (AV × Store) := on1 a fun a => onRef a fun i => alt
  (onList (os.get i) fun xs => bT (Nat.ble xs.length 2000) (some (.int (.ofNat xs.length), os))) (alt
  (onDS (os.get i) fun es => bT (Nat.ble es.length 2000) (some (.int (.ofNat es.length), os)))
  (onTup (os.get i) fun xs => bT (Nat.ble xs.length 2000) (some (.int (.ofNat xs.length), os))))
theorem intAt {C : Cx} {as : List Addr} {m n : Nat} {t : Tok} (h : m = n) : RV C as (.int (.ofNat n)) (.int (m : Nat) t) := ⟨t, by rw [h]; rfl⟩
theorem len_2000 {m n : Nat} (q : Nat.ble n 2000 = true) (h : m = n) : (m : Int) < 2 ^ 63 := by
  have := ble_iff.mp q
  omega
theorem oLen_ok (O : Ok C) : CallOk C (fun vs => call (.builtin "len") vs) oLen := by
  intro A E s hk as st L a v x os' Q hh hu e X hx K
  refine on1_elim e fun y ha e => onRef_elim e fun i hi e1 => ?_
  subst ha hi
  refine rvs1 hx fun w hw => ?_
  refine alt_elim e1 (fun e => onList_elim e fun xs q e => bT_elim e fun qb z => ?_) fun e => alt_elim e (fun e => onDS_elim e fun es q e => bT_elim e fun qb z => ?_) fun e => onTup_elim e fun xs q e => bT_elim e fun qb z => ?_
  · refine X.listE q hw fun a items m ha hl hr => ?_
    exact Calls.call_len_list hl.isList (len_2000 qb hr.length) (kRet z K as _ _ _ (List.prefix_refl _) X (intAt hr.length))
  · obtain ⟨a, kvs, rfl, ha, hd, hkv⟩ := X.dictS q hw
    exact call_len_dict (X.loS q ha) hd (len_2000 qb hkv.length) (kRet z K as _ _ _ (List.prefix_refl _) X (intAt hkv.length))
  · refine X.tupE q hw fun a items ha hl hr => ?_
    exact len_tuple (t := a) (items := items) ⟨_, hl, rfl, 0, rfl⟩ (len_2000 qb hr.length) (kRet z K as _ _ _ (List.prefix_refl _) X (intAt hr.length))
noncomputable def oChr (a : List AV) (os : Store) : Option (AV × Store) := on1 a fun x => onInt x fun i => onNat i fun k => bT (Nat.ble k 255) (some (.str [k], os))
theorem chr_le {k : Nat} (qb : Nat.ble k 255 = true) : (decide (Int.ofNat k < 0) || decide (Int.ofNat k > 0x10FFFF)) = false := by
  have := ble_iff.mp qb
  simp; omega
theorem oChr_ok : CallOk C (fun vs => call (.builtin "chr") vs) oChr := by
  intro A E s hk as st L a v x os' Q hh hu e X hx K
  refine on1_elim e fun y ha e => onInt_elim e fun i hi e => onNat_elim e fun k hk e => bT_elim e fun qb z => ?_
  subst ha hi hk
  exact rvs1 hx fun w hw => rvInt hw fun t => P.chr_of_int (chr_le qb) (kRet z K as _ _ _ (List.prefix_refl _) X ⟨_, rfl⟩)
noncomputable def oStr (a : List AV) (os : Store) : Option (AV × Store) := on1 a fun x => onInt x fun i => onNat i fun k => bT (Nat.blt k 10) (some (.str [k + 48], os))
theorem digit_is {k : Nat} (h : Nat.blt k 10 = true) : Str.ofString (toString (Int.ofNat k)) = ⟨[k + 48].toArray⟩ := by
  have hd : ∀ k, k < 10 → (Str.ofString (toString (Int.ofNat k))) = ⟨[k + 48].toArray⟩ := by decide +kernel
  exact hd k (by rw [Store.blt_eq] at h; exact of_decide_eq_true h)
theorem abs_lt {k : Nat} (h : Nat.blt k 10 = true) : (if Int.ofNat k < 0 then 0 - Int.ofNat k else Int.ofNat k) < 1000 := by
  rw [Store.blt_eq] at h
  have b1 : k < 10 := of_decide_eq_true h
  show (if ((k : Nat) : Int) < 0 then 0 - ((k : Nat) : Int) else ((k : Nat) : Int)) < 1000
  split <;> omega
theorem oStr_ok : CallOk C (fun vs => call (.type "str") vs) oStr := by
  intro A E s hk as st L a v x os' Q hh hu e X hx K
  refine on1_elim e fun y ha e => onInt_elim e fun i hi e => onNat_elim e fun k hk e => bT_elim e fun qb z => ?_
  subst ha hi hk
  exact rvs1 hx fun w hw => rvInt hw fun t => str_of_int_fit (N := 1000) (abs_lt qb) (by decide) fun _ => kRet z K as _ _ _ (List.prefix_refl _) X ⟨s.toks, congrArg (fun z => Value.str z s.toks) (digit_is qb)⟩
noncomputable def natsA : List AV → Option (List Nat)
  | [] => some []
  | a :: r => onInt a fun i => onNat i fun k => bT (Nat.blt k 256) (o1 (natsA r) fun l => some (k :: l))
theorem natsA_are {as : List Addr} {xs : List AV} : ∀ {vs : List Value} {ns : List Nat}, natsA xs = some ns → RVs C as xs vs → IntsAre vs (ns.map Int.ofNat) ∧ ∀ x ∈ ns, x < 256 := by
  induction xs with
  | nil => intro vs ns e h; cases e; exact rvs0 h ⟨.nil, fun x hx => by cases hx⟩
  | cons a r ih =>
    intro vs ns e h
    refine onInt_elim e fun i hi e => onNat_elim e fun k hk e => bT_elim e fun q0 e => o1_elim e fun l q z => ?_
    obtain ⟨v, t, e2, h1, h2⟩ := h
    cases z
    subst hi hk e2
    obtain ⟨g1, g2⟩ := ih q h2
    refine rvInt h1 fun tk => ⟨.cons _ tk g1, fun x hx => (List.mem_cons.mp hx).elim (fun z => ?_) (g2 x)⟩
    rw [z]; rw [Store.blt_eq] at q0; exact of_decide_eq_true q0
noncomputable def oBytes (a : List AV) (os : Store) : Option (AV × Store) := on1 a fun a => onRef a fun i => onList (os.get i) fun xs => bT (Nat.ble xs.length 200) (o1 (natsA xs) fun ns => some (.byt ns, os))
theorem byte_ok {ns : List Nat} (hb : ∀ x ∈ ns, x < 256) : ∀ y ∈ ns.map Int.ofNat, 0 ≤ y ∧ y < 256 := fun y hy => by
  obtain ⟨z, hz, rfl⟩ := List.mem_map.mp hy
  have := hb z hz
  exact ⟨Int.natCast_nonneg z, by show ((z : Nat) : Int) < 256; omega⟩
theorem byteArr_nat (ns : List Nat) : byteArr (ns.map Int.ofNat) = (ns.map UInt8.ofNat).toArray := by
  unfold byteArr
  rw [List.map_map]
  rfl
theorem len_200' {m n : Nat} (q : Nat.ble n 200 = true) (h : m = n) : m ≤ sizeLine := by
  have := ble_iff.mp q
  rw [line_is]; omega
theorem oBytes_ok : CallOk C (fun vs => call (.type "bytes") vs) oBytes := by
  intro A E s hk as st L a v x os' Q hh hu e X hx K
  refine on1_elim e fun y ha e => onRef_elim e fun i hy e => onList_elim e fun xs q e => bT_elim e fun qb e => o1_elim e fun ns q2 z => ?_
  subst ha hy
  refine rvs1 hx fun w hw => X.listE q hw fun a items m ha hl hr => ?_
  have hi := natsA_are q2 hr
  exact call_bytes_ints (vs := items.toList) (by simpa using hl.isList) hi.1 (byte_ok hi.2) (len_200' qb hr.length) hh fun h' t k hk => kRet z K as h' k _ (List.prefix_refl _) (X.ext hk) ⟨t, congrArg (fun z => Value.bytes z t) (byteArr_nat ns)⟩
end
end Mine
end
end
section
set_option maxRecDepth 100000
set_option linter.unusedVariables false
set_option linter.unusedSectionVars false
set_option autoImplicit false
set_option genSizeOf false
set_option genInjectivity false
noncomputable section
namespace Mine
open PySem PySem.W PyProof.Rows
open PySem.MeetsSeq PySem.MeetsSeq2 PySem.MeetsSeq3
section
variable {C : Cx} {n : Nat} {sc : Sc}
/-! methods -/
noncomputable def tyA (v : AV) (os : Store) : Option Nat := alt (onStr v fun _ => some 2) (alt (onSym v fun _ => some 2) (alt (onByt v fun _ => some 3) (onRef v fun i =>
  alt (onList (os.get i) fun _ => some 1) (alt (onRuns (os.get i) fun _ => some 1) (onDS (os.get i) fun _ => some 4)))))
noncomputable def isTy (v : AV) (os : Store) (ty : Nat) : Bool := match tyA v os with
  | some k => Nat.beq k ty
  | none => false
noncomputable def tyN (k : Nat) : String := match k with
  | 1 => "list"
  | 2 => "str"
  | 3 => "bytes"
  | _ => "dict"
theorem isTy_ok {s : Shared} {hk : Heap} {as : List Addr} {st : St} {f : Fm} {v : AV} {x : Value} {k : Nat} (X : Rel C hk as st f s.heap) (hx : RV C as v x) (e : isTy v st.os k = true) :
    s.TypeIs x (tyN k) ∧ ∀ a, x = .ref a → ∃ ob, s.heap.get? a = some ob ∧ ob.dict = none := by
  unfold isTy at e
  cases q0 : tyA v st.os with
  | none => rw [q0] at e; cases e
  | some j =>
  rw [q0] at e
  cases Nat.eq_of_beq_eq_true e
  refine alt_elim q0 (fun e => onStr_elim e fun _ h z => ?_) fun e => alt_elim e (fun e => onSym_elim e fun _ h z => ?_) fun e => alt_elim e (fun e => onByt_elim e fun _ h z => ?_) fun e => onRef_elim e fun i h z => ?_
  · subst h; cases z; exact rvStr hx fun t => ⟨rfl, fun a q => by cases q⟩
  · subst h; cases z; exact rvSym hx fun t => ⟨rfl, fun a q => by cases q⟩
  · subst h; cases z; exact rvByt hx fun t => ⟨rfl, fun a q => by cases q⟩
  · subst h
    refine alt_elim z (fun e => onList_elim e fun xs q z => ?_) fun e => alt_elim e (fun e => onRuns_elim e fun xs q z => ?_) fun e => onDS_elim e fun es q z => ?_
    · cases z
      exact X.listE q hx fun a items m ha hl hr => ⟨hl.isList.typeIs, fun b q => by cases q; exact ⟨_, hl, rfl⟩⟩
    · cases z
      obtain ⟨a, ha, items, m, hl, hr⟩ := X.S.obj i _ q
      obtain ⟨a', ha', rfl⟩ := hx
      rw [ha] at ha'
      cases ha'
      exact ⟨hl.isList.typeIs, fun b q => by cases q; exact ⟨_, hl, rfl⟩⟩
    · cases z
      refine X.dictSE q hx fun a kvs ha hd hkv => ⟨hd.typeIs, fun b q => ?_⟩
      cases q
      obtain ⟨ep, o, es, ho, hc, _⟩ := hd.dictAt
      exact ⟨o, ho, hc.2.1⟩
noncomputable def cMeth (ty : Nat) (op : List AV → Store → Option (AV × Store)) (f : St → Option (AV × St)) (g : St → Option (List AV × St)) : St → Option (AV × St) := fun s =>
  ob (f s) fun v s1 => bT (isTy v s1.os ty) (ob (g s1) fun a s2 => ob (op (v :: a) s2.os) fun r o => mkS r s2 o)
theorem RefE.meth {recv : Expr} {name : Str} {apos pos : Pos} {a0 : Expr} {args : List Expr} {k : Nat} {id : String} {op} {f fs} (hop : CallOk C (fun vs => call (.builtin id) vs) op) (hf : RefE C n sc recv f) (hfs : RefL C n sc (a0 :: args) (cSeq fs))
    (pa : PlainAttrs (tyN (k + 1))) (slot : Slot (tyN (k + 1)) name id) (hty : typeOf (.builtin id) = pure (.type "method_descriptor"))
    (hline : (apos.endLine == pos.line) = true)
    (hbase : ∀ env, attributeBase recv name env (eval recv env) = eval recv env := by intro _; rfl)
    (hfew : ∀ env, ((backTo pos (starEach (a0 :: args) env)).all (fun x => !x.1) && (backToKw pos (keywordEach [] env)).all (fun x => x.1.isSome)
      && decide ((a0 :: args).length + ([] : List Keyword).length + (if ([] : List Keyword).isEmpty then 0 else 1) < 30)) = true := by intro _; rfl)
    (hp : ∀ env, (backTo pos (starEach (a0 :: args) env)).any (·.1) = false := by intro _; rfl)
    (hse : ∀ env, starEach (a0 :: args) env = (false, eval a0 env) :: starEach args env := by intro _; rfl) :
    RefE C n sc (.Call (.Attribute recv name apos) (a0 :: args) [] pos) (cMeth (k + 1) op f (cSeq fs)) := by
  intro A env E s hk as st st' u Q R F e' X K
  refine ob_elim e' fun v s1 q1 e => bT_elim e fun q2 e => ob_elim e fun a s2 q3 e => ob_elim e fun r o q4 z => ?_
  refine wpAny_Call_method (hbase env) (hfew env) hline pa slot hty (hf R F q1 X fun as1 h1 t1 x p1 X1 hx => ?_)
  have ht := isTy_ok (s := { s with heap := h1, toks := t1 }) X1 hx q2
  refine ⟨ht.1, ht.2, ?_⟩
  refine Calls.callWith_builtin (hp env) ?_
  refine args_of (hse env) (hfs pos R F q3 X1 fun as2 h2 t2 xs p2 X2 hxs => ?_)
  show wpAny (model prog C.w) A (call (.builtin id) (x :: xs)) Q E _
  exact hop R.handled R.u200 q4 X2 ⟨x, xs, rfl, hx.mono p2, hxs⟩ fun as3 h3 t3 val p3 X3 hv => kRetT z K as3 h3 t3 val (p1.trans (p2.trans p3)) X3 hv
noncomputable def cMeth0 (ty : Nat) (op : List AV → Store → Option (AV × Store)) (f : St → Option (AV × St)) : St → Option (AV × St) := fun s =>
  ob (f s) fun v s1 => bT (isTy v s1.os ty) (ob (op [v] s1.os) fun r o => mkS r s1 o)
theorem RefE.meth0 {recv : Expr} {name : Str} {apos pos : Pos} {k : Nat} {id : String} {op} {f} (hop : CallOk C (fun vs => call (.builtin id) vs) op) (hf : RefE C n sc recv f)
    (pa : PlainAttrs (tyN (k + 1))) (slot : Slot (tyN (k + 1)) name id) (hty : typeOf (.builtin id) = pure (.type "method_descriptor"))
    (hline : (apos.endLine == pos.line) = true)
    (hbase : ∀ env, attributeBase recv name env (eval recv env) = eval recv env := by intro _; rfl) :
    RefE C n sc (.Call (.Attribute recv name apos) [] [] pos) (cMeth0 (k + 1) op f) := by
  intro A env E s hk as st st' u Q R F e' X K
  refine ob_elim e' fun v s1 q1 e => bT_elim e fun q2 e => ob_elim e fun r o q4 z => ?_
  refine wpAny_Call_method (hbase env) rfl hline pa slot hty (hf R F q1 X fun as1 h1 t1 x p1 X1 hx => ?_)
  have ht := isTy_ok (s := { s with heap := h1, toks := t1 }) X1 hx q2
  refine ⟨ht.1, ht.2, ?_⟩
  refine Calls.callWith_builtin rfl ?_
  refine PySem.evalArgs_none ?_
  show wpAny (model prog C.w) A (call (.builtin id) [x]) Q E _
  exact hop R.handled R.u200 q4 X1 ⟨x, [], rfl, hx, rfl⟩ fun as3 h3 t3 val p3 X3 hv => kRetT z K as3 h3 t3 val (p1.trans p3) X3 hv
/-! methods of lists -/
noncomputable def oAppend (a : List AV) (os : Store) : Option (AV × Store) := onPair a fun a v => onRef a fun i => o1 (appO i v os) fun os' => some (.none, os')
theorem appO_eq {i : Nat} {v : AV} {os os' : Store} (e : appO i v os = some os') : ∃ xs, os.get i = some (.list xs) ∧ xs.length ≤ 2000 ∧ os.set i (.list (xs ++ [v])) = some os' :=
  onList_elim e fun xs q e => bT_elim e fun q2 e => ⟨xs, q, ble_iff.mp q2, e⟩
theorem len_line2 {a b m n : Nat} (h : Nat.ble (m + n) 2000 = true) (q : a = m) (q2 : b = n) : a ≤ sizeLine ∧ b ≤ sizeLine ∧ a + b ≤ sizeLine := by
  have := ble_iff.mp h
  rw [line_is]; omega
theorem oAppend_ok : CallOk C (fun vs => call (.builtin "list.append") vs) oAppend := by
  intro A E s hk as st L a v x os' Q hh hu e X hx K
  refine onPair_elim e fun x1 w ha e => onRef_elim e fun i hi e => o1_elim e fun os2 q0 z => ?_
  subst ha hi
  obtain ⟨xs, q, b, q2⟩ := appO_eq q0
  refine rvs2 hx fun y u hy hz => X.listE q hy fun a items m ha hl hr => ?_
  refine wpAny_list_append_plain ⟨m, hl⟩ (fun h7 hl7 hs7 => ?_) (len_line b hr.length)
  obtain ⟨m7, hl7⟩ := hl7
  exact kRet z K as h7 s.toks _ (List.prefix_refl _) (X.set q2 ha hs7.extBut hl7 ⟨_, m7, hl7, by
    rw [Array.toList_push]
    exact hr.append (.one hz)⟩ rfl ⟨_, q, rfl⟩) rfl
noncomputable def oExtend (a : List AV) (os : Store) : Option (AV × Store) := onPair a fun a b => onRef a fun i => onRef b fun j => onList (os.get i) fun xs => onList (os.get j) fun ys =>
  bT (Nat.ble (xs.length + ys.length) 2000) (o1 (os.set i (.list (xs ++ ys))) fun os' => some (.none, os'))
theorem notTooLong {a b : Array Value} (h : a.toList.length + b.toList.length ≤ sizeLine) : Builtin.List.listTooLong (a.size + b.size) = false := by
  unfold Builtin.List.listTooLong
  rw [line_is] at *
  simp at h ⊢
  omega
theorem oExtend_ok : CallOk C (fun vs => call (.builtin "list.extend") vs) oExtend := by
  intro A E s hk as st L a v x os' Q hh hu e X hx K
  refine onPair_elim e fun x1 x2 ha e => onRef_elim e fun i hi e => onRef_elim e fun j hj e => onList_elim e fun xs q e => onList_elim e fun ys qy e => bT_elim e fun qb e => o1_elim e fun os2 q2 z => ?_
  subst ha hi hj
  refine rvs2 hx fun y u hy hz => X.listE q hy fun a items m ha hl hr => X.listE qy hz fun b items2 m2 hb hl2 hr2 => ?_
  have b1 := len_line2 qb hr.length hr2.length
  refine call_meets F.slot_list_extend ⟨_, hl, rfl⟩ F.entry_list_extend (F.args_list_extend_2 _ _)
    (AutoSeq1.list_extend_list_list_0 a items m b items2 m2 (by rw [notTooLong b1.2.2, Bool.and_false]; exact Bool.false_ne_true) b1.1 (Nat.le_succ_of_le b1.2.2)) ⟨hl, hl2, ?_⟩
  refine kRet z K as _ s.toks _ (List.prefix_refl _) (X.set q2 ha (Heap.SameBut.update ..).extBut (hl.update _) ⟨_, _, hl.update _, ?_⟩ rfl ⟨_, q, rfl⟩) rfl
  rw [Array.toList_append]
  exact hr.append hr2
noncomputable def oPop (a : List AV) (os : Store) : Option (AV × Store) := on1 a fun a => onRef a fun i => onList (os.get i) fun xs => bT (Nat.ble xs.length 2000) (o1 (nth xs (xs.length - 1)) fun v => o1 (os.set i (.list (xs.take (xs.length - 1)))) fun os' => some (v, os'))
theorem erase_last {items : Array Value} {n : Nat} (h : items.toList.length = n) : (items.eraseIdxIfInBounds (items.size - 1)).toList = items.toList.take (n - 1) := by
  subst h
  rw [Array.length_toList]
  unfold Array.eraseIdxIfInBounds
  split
  · rw [Array.toList_eraseIdx, List.eraseIdx_eq_take_drop_succ, List.drop_of_length_le (by rw [Array.length_toList]; omega), List.append_nil]
  · rw [List.take_of_length_le (by rw [Array.length_toList]; omega)]
theorem oPop_ok : CallOk C (fun vs => call (.builtin "list.pop") vs) oPop := by
  intro A E s hk as st L a v x os' Q hh hu e X hx K
  refine on1_elim e fun x1 ha e => onRef_elim e fun i hi e => onList_elim e fun xs q e => bT_elim e fun qb e => o1_elim e fun w qn e => o1_elim e fun os2 q2 z => ?_
  subst ha hi
  refine rvs1 hx fun y hy => X.listE q hy fun a items m ha hl hr => ?_
  have l1 : items.size = xs.length := hr.length
  rw [nth_eq] at qn
  obtain ⟨val, hv, hrv⟩ := hr.get qn
  refine call_meets F.slot_list_pop ⟨_, hl, rfl⟩ F.entry_list_pop (F.args_list_pop_1 _) (list_pop_last a items m val (by rw [l1]; simpa using hv) ((len_line' qb l1))) ⟨hl, ?_⟩
  refine kRet z K as _ s.toks _ (List.prefix_refl _) (X.set q2 ha (Heap.SameBut.update ..).extBut (hl.update _) ⟨_, _, hl.update _, ?_⟩ rfl ⟨_, q, rfl⟩) hrv
  rw [erase_last hr.length]
  exact hr.take _
/-! methods of dicts -/
noncomputable def dDel {κ : Type} (eqb : κ → κ → Bool) : List (κ × AV) → κ → List (κ × AV)
  | [], _ => []
  | (j, u) :: r, k => match eqb j k with
    | true => dDel eqb r k
    | false => (j, u) :: dDel eqb r k
theorem without_cons {K : Type} [DecidableEq K] (y : K) (z : Value) (t : List (K × Value)) (k : K) : without ((y, z) :: t) k = if y = k then without t k else (y, z) :: without t k := by
  unfold without
  by_cases q : y = k <;> simp [q]
theorem dDel_ok {κ K : Type} [DecidableEq K] {as : List Addr} {emb : κ → K} {eqb : κ → κ → Bool} (hq : ∀ a b, eqb a b = decide (emb a = emb b)) (k : κ) {es : List (κ × AV)} : ∀ {kvs : List (K × Value)}, KvOk C as emb es kvs → KvOk C as emb (dDel eqb es k) (without kvs (emb k)) := by
  induction es with
  | nil =>
    intro kvs h
    have : kvs = [] := by simpa using h.keys
    subst this
    exact ⟨rfl, rfl⟩
  | cons p r ih =>
    intro kvs h
    cases kvs with
    | nil => have := h.keys; simp at this
    | cons p' t =>
      obtain ⟨j, u⟩ := p
      obtain ⟨y, z⟩ := p'
      have hk := h.keys
      simp only [List.map_cons, List.cons.injEq] at hk
      obtain ⟨val', rest, e2, h1, h2⟩ := h.vals
      simp only [List.map_cons, List.cons.injEq] at e2
      have ih := ih (kvs := t) ⟨hk.2, by rw [e2.2]; exact h2⟩
      rw [without_cons, hk.1]
      unfold dDel
      rw [hq]
      by_cases q : emb j = emb k
      · rw [decide_eq_true q, if_pos q]; exact ih
      · rw [decide_eq_false q, if_neg q]
        exact ⟨by simp only [List.map_cons, ih.keys], z, _, rfl, by rw [e2.1]; exact h1, ih.vals⟩
noncomputable def oDpop (a : List AV) (os : Store) : Option (AV × Store) := onPair a fun a b => onRef a fun i => onStr b fun k => onDS (os.get i) fun es => bT (Nat.ble es.length 2000)
  (o1 (dGet eqL es k) fun v => o1 (os.set i (.dictS (dDel eqL es k))) fun os' => some (v, os'))
theorem oDpop_ok : CallOk C (fun vs => call (.builtin "dict.pop") vs) oDpop := by
  intro A E s hk as st L a v x os' Q hh hu e X hx K
  refine onPair_elim e fun x1 x2 ha e => onRef_elim e fun i hi e => onStr_elim e fun k hj e => onDS_elim e fun es q e => bT_elim e fun qb e => o1_elim e fun w qn e => o1_elim e fun os2 q2 z => ?_
  subst ha hi hj
  refine rvs2 hx fun y u hy hz => rvStr hz fun t => X.dictSE q hy fun a kvs ha hd hkv => ?_
  obtain ⟨val, hv, hrv⟩ := dGet_some eqL_dec hkv qn
  refine call_meetsIn F.slot_dict_pop hd.typeIs F.entry_dict_pop (F.args_dict_pop_2 _ _) (meets_dict_pop_there (strKind prog C.w) a (isStr_self _ t) [] (.inl rfl) rfl) ⟨kvs, val, hd, (len_line' qb hkv.length), hv, fun h' hd' hs => ?_⟩
  obtain ⟨o, es', ep', ho, _⟩ := id hd'
  have hn := dDel_ok eqL_dec k hkv
  exact kRet z K as h' _ _ (List.prefix_refl _) (X.set q2 ha hs.extBut ho ⟨X.loS q ha, _, hd', hn.keys, hn.vals⟩ rfl ⟨_, q, rfl⟩) hrv
noncomputable def oSetdef (a : List AV) (os : Store) : Option (AV × Store) := on3 a fun a b v => onRef a fun i => onStr b fun k => onDS (os.get i) fun es => bT (Nat.ble es.length 2000)
  (oC (dGet eqL es k) (fun w => some (w, os)) (o1 (os.set i (.dictS (dSet eqL es k v))) fun os' => some (v, os')))
theorem someNone {α : Type} {x : Option α} {a : α} {P : Prop} (h1 : x = some a) (h2 : x = none) : P := by rw [h1] at h2; cases h2
theorem someSome {α : Type} {x : Option α} {a b : α} (h1 : x = some a) (h2 : x = some b) : a = b := by rw [h1] at h2; cases h2; rfl
theorem oSetdef_ok (O : Ok C) : CallOk C (fun vs => call (.builtin "dict.setdefault") vs) oSetdef := by
  intro A E s hk as st L a v x os' Q hh hu e X hx K
  refine on3_elim e fun x1 x2 x3 ha e => onRef_elim e fun i hi e => onStr_elim e fun k hj e => onDS_elim e fun es q e => bT_elim e fun qb z => ?_
  subst ha hi hj
  refine rvs3 hx fun y u z3 hy hz hz3 => rvStr hz fun t => X.dictSE q hy fun a kvs ha hd hkv => ?_
  refine call_meetsIn F.slot_dict_setdefault hd.typeIs F.entry_dict_setdefault (F.args_dict_setdefault_3 _ _ _) (kt_meets_setdefault (strKind prog C.w) a (isStr_self _ t) (X.loS q ha) z3) ?_
  have hlen := (len_line' qb hkv.length)
  refine oC_elim z (fun w qn z => ?_) fun qn e => o1_elim e fun os2 q2 z => ?_
  · obtain ⟨val, hv, hrv⟩ := dGet_some eqL_dec hkv qn
    exact ⟨kvs, hd, hlen, fun u hu => someSome hv hu ▸ kRet z K as s.heap _ _ (List.prefix_refl _) X hrv, fun hn => someNone hv hn⟩
  · have hv := dGet_none eqL_dec hkv qn
    refine ⟨kvs, hd, hlen, fun u hu => someNone hu hv, fun _ h' hd' hs => ?_⟩
    obtain ⟨o, es', ep', ho, _⟩ := id hd'
    have hn := dSet_ok eqL_dec hkv (dictNodup hd) k hz3
    exact kRet z K as h' _ _ (List.prefix_refl _) (X.set q2 ha hs.extBut ho ⟨X.loS q ha, _, hd', hn.keys, hn.vals⟩ rfl ⟨_, q, rfl⟩) hz3
theorem dictAt_new {K : Type} [DecidableEq K] {knd : KeyKind prog C.w K} (h : Heap) : (h.push { cls := .type "dict", data := .dict #[] }).DictAt knd h.objs.size [] 0 :=
  ⟨_, #[], Heap.get?_push_size _ rfl, ⟨rfl, rfl, rfl⟩, rfl, (by intro e he; simp at he), .nil, by simp⟩
noncomputable def cDictS : St → Option (AV × St) := fun s => ob (s.os.new (.dictS [])) fun v o => mkS v s o
noncomputable def cDictI : St → Option (AV × St) := fun s => ob (s.os.new (.dictI [] 0)) fun v o => mkS v s o
theorem RefE.dictS {pos : Pos} : RefE C n sc (.Dict [] [] pos) cDictS := by
  intro A env E s hk as st st' v Q R F e X K
  refine ob_elim e fun u o q z => ?_
  refine wpAny_Dict_empty ?_
  have X' := X.new q (fun _ _ e => Heap.get?_push_of_some _ e) (fresh_size _) (Heap.get?_push_size _ rfl) (h' := s.heap.push { cls := .type "dict", data := .dict #[] }) ⟨X.S.lowNew, [], (dictAt_new _).dictOf, rfl, rfl⟩ rfl
  exact kRetT z K _ _ s.toks _ pre1 X'.1 X'.2
theorem RefE.dictI {pos : Pos} : RefE C n sc (.Dict [] [] pos) cDictI := by
  intro A env E s hk as st st' v Q R F e X K
  refine ob_elim e fun u o q z => ?_
  refine wpAny_Dict_empty ?_
  have X' := X.new q (fun _ _ e => Heap.get?_push_of_some _ e) (fresh_size _) (Heap.get?_push_size _ rfl) (h' := s.heap.push { cls := .type "dict", data := .dict #[] }) ⟨X.S.lowNew, [], dictAt_new _, rfl, rfl⟩ rfl
  exact kRetT z K _ _ s.toks _ pre1 X'.1 X'.2
noncomputable def cDict1 (fk fv : St → Option (AV × St)) : St → Option (AV × St) := fun s => ob (s.os.new (.dictI [] 0)) fun v o => ob (fk ⟨s.loc, o⟩) fun a s1 => ob (fv s1) fun b s2 =>
  onRef v fun i => onDI (s2.os.get i) fun es ep => on0 es <| bT (Nat.beq ep 0) <| onInt a fun k => o1 (s2.os.set i (.dictI [(k, b)] 1)) fun o3 => mkS v s2 o3
theorem dict1_shape (ek ev : Expr) (pos : Pos) (env : Env) : (evalEachOpt [some ek] env).zip ((evalEach [ev] env).map fun v => do let x ← v; standAt pos; pure x) = ([(eval ek env, do let x ← eval ev env; standAt pos; pure x)] : List (Sem Value × Sem Value)).map fun p => (some p.1, p.2) := by
  rfl
theorem RefE.dict1 {ek ev : Expr} {pos : Pos} {fk fv} (hk' : RefE C n sc ek fk) (hv' : RefE C n sc ev fv) :
    RefE C n sc (.Dict [some ek] [ev] pos) (cDict1 fk fv) := by
  intro A env E s hk as st st' v Q R F e X K
  refine ob_elim e fun u o q e => ob_elim e fun a s1 q1 e => ob_elim e fun b s2 q2 e => onRef_elim e fun i hi e => onDI_elim e fun es ep qd e => on0_elim e fun h1 e => bT_elim e fun h2 e => onInt_elim e fun k hk2 e => o1_elim e fun o3 q3 z => ?_
  cases Nat.eq_of_beq_eq_true h2
  subst hi h1 hk2
  show wpAny _ A (eval (.Dict [some ek] [ev] pos) env) Q E s
  rw [arm_eval_Dict, dict1_shape, dictDisplay_pairs _ (by simp) (by simp)]
  refine wpAny_bind (wpAny_standAt (wpAny_bind ?_))
  unfold subDict
  refine wpAny_bind (wpAny_alloc ?_)
  refine wpAny_bind (wpAny_holding ?_)
  rw [if_pos (by simp)]
  have X' := X.new q (fun _ _ e => Heap.get?_push_of_some _ e) (fresh_size _) (Heap.get?_push_size _ rfl) (h' := s.heap.push { cls := .type "dict", data := .dict #[] }) ⟨X.S.lowNew, [], dictAt_new _, rfl, rfl⟩ rfl
  refine wpAny_bind (evalPairs_cons (hk' (s := { s with heap := _ }) R F q1 X'.1 fun as1 h1 t1 x p1 X1 hx => ?_))
  refine wpAny_bind (hv' R F q2 X1 fun as2 h2 t2 y p2 X2 hy => wpAny_bind (wpAny_standAt (wpAny_pure (evalPairs_nil ?_))))
  have hv2 := X'.2.mono (p1.trans p2)
  obtain ⟨d, kvs, hde, hda, hd, hkv⟩ := X2.dictI qd hv2
  cases hde
  refine rvInt hx fun t => ?_
  have hkv0 : kvs = [] := List.eq_nil_of_length_eq_zero hkv.length
  subst hkv0
  refine wpAny_holding ?_
  rw [List.forIn_cons]
  refine wpAny_bind (wpAny_bind (wpAny_bind (dictSetAt (hsz := by simp [line_is]) (isInt_self k t) hd (fun h' o hd' ho hs => wpAny_pure ?_))))
  show wpAny _ _ (forIn ([] : List (Value × Value)) PUnit.unit _) _ _ _
  rw [List.forIn_nil]
  refine wpAny_pure (wpAny_pure (wpAny_pure (wpAny_pure ?_)))
  exact kRetT z K as2 h' _ _ (pre1.trans (p1.trans p2)) (X2.set q3 hda hs.extBut ho ⟨X2.loI qd hda, _, hd', rfl, _, _, rfl, hy, rfl⟩ rfl ⟨_, qd, rfl⟩) hv2
/-! in -/
noncomputable def oNotIn (a b : AV) (os : Store) : Option Bool := onRef b fun i => onDI (os.get i) fun es _ => onInt a fun k => oC (dGet eqI es k) (fun _ => some false) (some true)
theorem oNotIn_ok (O : Ok C) : CmpOk C (compareOp .NotIn) oNotIn := by
  intro A E s hk as st L a b v x y Q hh hu e X hx hy K
  refine onRef_elim e fun i hi e => onDI_elim e fun es ep q e => onInt_elim e fun k hk2 z => ?_
  subst hi hk2
  refine rvInt hx fun t => X.dictIE q hy fun d kvs ha hd hkv => ?_
  refine wpAny_notIn_of (isInt_self k t) (X.loI q ha) hd.dictOf.mapOf ?_
  refine oC_elim z (fun w qn z => ?_) fun qn z => ?_
  · obtain ⟨val, hv, _⟩ := dGet_some eqI_dec hkv qn
    rw [show valueAt kvs k = some val from hv]
    exact kRetB z K s.heap _ X
  · rw [show valueAt kvs k = none from dGet_none eqI_dec hkv qn]
    exact kRetB z K s.heap _ X
end
end Mine
end
end
section
set_option maxRecDepth 100000
set_option linter.unusedVariables false
set_option linter.unusedSectionVars false
set_option autoImplicit false
set_option genSizeOf false
set_option genInjectivity false
noncomputable section
namespace Mine
open PySem PySem.W PyProof.Rows
open PySem.SeqAt
section
variable {C : Cx} {n : Nat} {sc : Sc}
noncomputable def allEqA : List AV → List AV → Option Bool
  | [], ys => on0 ys (some true)
  | a :: l, ys => onCons ys fun b r => o1 (pEq a b) fun x => o1 (allEqA l r) fun y => bIf x (some y) (some false)
theorem eqL_arr (i j : List Nat) : ((⟨i.toArray⟩ : Str) == (⟨j.toArray⟩ : Str)) = eqL i j := by rw [eqL_eq, Bool.eq_iff_iff]; simp
theorem pEq_at {as : List Addr} {a b : AV} {x y : Value} {e : Bool} {A : Around} {s : Shared} (h : pEq a b = some e) (hx : RV C as a x) (hy : RV C as b y) : EqAt A s x y e := by
  refine alt_elim h (fun e => onInt_elim e fun i hi e => onInt_elim e fun j hj z => ?_) fun e => onStr_elim e fun i hi e => onStr_elim e fun j hj z => ?_
  · subst hi hj
    cases z
    exact rvInt hx fun t => rvInt hy fun u => eqI_eq i j ▸ EqAt.int_int _ t _ u
  · subst hi hj
    cases z
    exact rvStr hx fun t => rvStr hy fun u => eqL_arr i j ▸ EqAt.str_str _ t _ u
noncomputable def consF (x : Bool) (e : Nat → Bool) (j : Nat) : Bool := Nat.rec x (fun j _ => e j) j
theorem all_consF (x : Bool) (e : Nat → Bool) (n : Nat) : (List.range (n + 1)).all (consF x e) = (x && (List.range n).all e) := by
  rw [List.range_succ_eq_map, List.all_cons, List.all_map]
  rfl
theorem bIf_and {x y k : Bool} (z : bIf x (some y) (some false) = some k) : (x && y) = k := by
  cases x
  · exact Option.some.inj z
  · exact Option.some.inj z
theorem allEqA_at {as : List Addr} {A : Around} {s : Shared} {xs : List AV} : ∀ {ys : List AV} {vs ws : List Value} {b : Bool}, allEqA xs ys = some b → RVs C as xs vs → RVs C as ys ws →
    ∃ e : Nat → Bool, (∀ j v w, vs[j]? = some v → ws[j]? = some w → EqAt A s v w (e j)) ∧ (List.range vs.length).all e = b ∧ vs.length = ws.length := by
  induction xs with
  | nil =>
    intro ys vs ws b h h1 h2
    refine on0_elim h fun hy z => ?_
    subst hy
    cases z
    rw [show vs = [] from h1, show ws = [] from h2]
    exact ⟨fun _ => true, fun j v w e => (nomatch e), rfl, rfl⟩
  | cons a l ih =>
    intro ys vs ws k h h1 h2
    refine onCons_elim h fun b r hy e => o1_elim e fun x q e => o1_elim e fun y q2 z => ?_
    subst hy
    obtain ⟨v, t, e1, h1, h2'⟩ := h1
    obtain ⟨w, u, e2, h3, h4⟩ := h2
    obtain ⟨e, he, hb, hl⟩ := ih q2 h2' h4
    subst e1 e2
    refine ⟨consF x e, fun j v' w' ev ew => ?_, (all_consF x e t.length).trans (hb ▸ bIf_and z), congrArg (· + 1) hl⟩
    cases j with
    | zero =>
      cases ev
      cases ew
      exact pEq_at q h1 h3
    | succ j => exact he j v' w' ev ew
noncomputable def listEqA (a b : AV) (os : Store) : Option Bool := onRef a fun i => onRef b fun j => onList (os.get i) fun xs => onList (os.get j) fun ys => bIf (Nat.beq xs.length ys.length) (allEqA xs ys) (some false)
theorem get_toList {vs : Array Value} {j : Nat} (h : j < vs.size) : vs.toList[j]? = some vs[j] := by simp [h]
theorem ne_len {a b c d : Nat} (h : Nat.beq a b = false) (h1 : c = a) (h2 : d = b) : (c != d) = true := by
  subst h1 h2
  rw [Tr.beq_eq] at h
  simpa using h
theorem listEqA_at {s : Shared} {hk : Heap} {as : List Addr} {st : St} {L : Fm} {a b : AV} {v : Bool} {x y : Value} {A : Around} (hu : A.units < cLine) (e : listEqA a b st.os = some v) (X : Rel C hk as st L s.heap) (hx : RV C as a x) (hy : RV C as b y) :
    RcAt A s x y v ∧ RcNeAt A s x y (!v) := by
  refine onRef_elim e fun i hi e => onRef_elim e fun j hj e => onList_elim e fun xs q e => onList_elim e fun ys q2 e0 => ?_
  subst hi hj
  refine X.listE q hx fun l items m ha hl hr => X.listE q2 hy fun b items2 m2 hb hl2 hr2 => ?_
  refine bIf_elim e0 (fun hq z => ?_) fun hq z => ?_
  · obtain ⟨f, hf, hv, hlen⟩ := allEqA_at (A := A.in1) (s := s) z hr hr2
    have hj : ∀ j (h1 : j < items.size) (h2 : j < items2.size), EqAt A.in1 s items[j] items2[j] (f j) := fun j h1 h2 => hf j _ _ (get_toList h1) (get_toList h2)
    rw [← hv]
    exact ⟨RcAt.lists hl.isList hl2.isList hlen hu hj, RcNeAt.lists hl.isList hl2.isList hlen hu hj⟩
  · cases z
    have hne := ne_len hq hr.length hr2.length
    exact ⟨RcAt.lists_lengths hl.isList hl2.isList hne hu, RcNeAt.lists_lengths hl.isList hl2.isList hne hu⟩
theorem u200_lt {u : Nat} (h : u + 200 < cLine) : u < cLine := by omega
theorem listEq_ok : CmpOk C (compareOp .Eq) listEqA := fun _ _ s _ _ _ _ _ _ _ _ _ _ _ hu e X hx hy K => (listEqA_at (u200_lt hu) e X hx hy).1 prog C.w _ _ (K s.heap s.toks X)
noncomputable def listNeA (a b : AV) (os : Store) : Option Bool := o1 (listEqA a b os) fun v => some (!v)
theorem listNe_ok : CmpOk C (compareOp .NotEq) listNeA := by
  intro A E s hk as st L a b v x y Q hh hu e X hx hy K
  refine o1_elim e fun w q z => ?_
  exact (listEqA_at (u200_lt hu) q X hx hy).2 prog C.w E Q (kRetB z K s.heap s.toks X)
/-- list(range(a, b)) -/
noncomputable def rangeL : Int → Nat → List AV
  | _, 0 => []
  | a, k + 1 => .int a :: rangeL (a + 1) k
theorem rangeL_get (k : Nat) : ∀ (a : Int) (j : Nat) (v : AV), (rangeL a k)[j]? = some v → v = .int (a + j) := by
  induction k with
  | zero => intro a j v e; cases e
  | succ k ih =>
    intro a j v e
    cases j with
    | zero => cases e; exact congrArg AV.int (Int.add_zero a).symm
    | succ j => rw [ih (a + 1) j v e, Int.add_assoc, Int.add_comm 1]; rfl
theorem rangeL_len (k : Nat) : ∀ a : Int, (rangeL a k).length = k := by
  induction k with
  | zero => intro a; rfl
  | succ k ih => intro a; exact congrArg (· + 1) (ih (a + 1))
theorem rvs_of_get {as : List Addr} {l : List AV} : ∀ {vs : List Value}, vs.length = l.length → (∀ (j : Nat) a v, l[j]? = some a → vs[j]? = some v → RV C as a v) → RVs C as l vs := by
  induction l with
  | nil =>
    intro vs h _
    exact List.eq_nil_of_length_eq_zero h
  | cons a l ih =>
    intro vs h k
    cases vs with
    | nil => cases h
    | cons v vs => exact ⟨v, vs, rfl, k 0 a v rfl rfl, ih (Nat.succ.inj h) fun j a v e e' => k (j + 1) a v e e'⟩
noncomputable def cListRange (f g : St → Option (AV × St)) : St → Option (AV × St) := fun s => ob (cSeq [f, g] s) fun l s1 => onPair l fun a b => onInt a fun i => onInt b fun j => bT (smallZ i) <| bT (smallZ j) <| ob (s1.os.new (.list (rangeL i (j - i).toNat))) fun v o => mkS v s1 o
theorem rng_small {i j : Int} (qi : smallZ i = true) (qj : smallZ j = true) : -10001 ≤ i ∧ i ≤ 10001 ∧ -10001 ≤ j ∧ j ≤ 10001 := by
  have := smallZ_le qi
  have := smallZ_le qj
  omega
theorem small_rg {i j : Int} (b : -10001 ≤ i ∧ i ≤ 10001 ∧ -10001 ≤ j ∧ j ≤ 10001) : Builtin.Range.small i j 1 = true := small_one (by omega) (by omega) (by omega) (by omega)
theorem rg_size (i j : Int) : Builtin.Range.rangeSize i j 1 = (j - i).toNat := by
  rw [rangeSize_one]
  split <;> omega
theorem rg_n {i j : Int} (b : -10001 ≤ i ∧ i ≤ 10001 ∧ -10001 ≤ j ∧ j ≤ 10001) : (j - i).toNat ≤ 2 ^ 24 := by omega
theorem range_rvs {as : List Addr} {i : Int} {k : Nat} {acc : Array Value} (hsz : acc.size = k) (hit : ∀ (m : Nat) v, acc[m]? = some v → ∃ t, v = .int (i + m * 1) t) : RVs C as (rangeL i k) acc.toList :=
  rvs_of_get (hsz.trans (rangeL_len k i).symm) fun j a v ea ev => by
    rw [rangeL_get k i j a ea]
    obtain ⟨t, rfl⟩ := hit j v (Array.getElem?_toList.symm.trans ev)
    exact ⟨t, by rw [Int.mul_one]⟩
theorem RefE.listRange (O : Ok C) {e e2 : Expr} {p p2 pos pos2 : Pos} {f g} (hf : RefE C n sc e f) (hg : RefE C n sc e2 g) (hx : sc.s.names.lookup (Str.ofString "range") = some .globalImplicit) (hm : C.mg (Str.ofString "range") = none)
    (hx2 : sc.s.names.lookup (Str.ofString "list") = some .globalImplicit) (hm2 : C.mg (Str.ofString "list") = none)
    (he : ∀ env, starEach [e, e2] env = (false, eval e env) :: starEach [e2] env := by intro _; rfl) (he2 : ∀ env, starEach [e2] env = (false, eval e2 env) :: starEach [] env := by intro _; rfl) (hp : ∀ env, (backTo pos (starEach [e, e2] env)).any (·.1) = false := by intro _; rfl)
    (he3 : ∀ env, starEach [.Call (.Name (Str.ofString "range") p) [e, e2] [] pos] env = (false, eval (.Call (.Name (Str.ofString "range") p) [e, e2] [] pos) env) :: starEach [] env := by intro _; rfl)
    (hp3 : ∀ env, (backTo pos2 (starEach [.Call (.Name (Str.ofString "range") p) [e, e2] [] pos] env)).any (·.1) = false := by intro _; rfl) :
    RefE C n sc (.Call (.Name (Str.ofString "list") p2) [.Call (.Name (Str.ofString "range") p) [e, e2] [] pos] [] pos2) (cListRange f g) := by
  intro A env E s hk as st st' v Q R F e' X K
  refine ob_elim e' fun l s1 q1 e => onPair_elim e fun a b hl e => onInt_elim e fun i hi e => onInt_elim e fun j hj e => bT_elim e fun qi e => bT_elim e fun qj e => ob_elim e fun w o qn ze => ?_
  subst hl hi hj
  refine wpAny_Call_Name_kw (nameB O X F hx2 hm2 (v := .type "list") rfl rfl (by decide) ?_)
  refine callFlat (.t "list") (hp3 env) ?_
  rw [he3 env]
  refine Calls.evalArgs_plain ?_
  refine Calls.spliced_cons (wpAny_Call_Name_kw (nameB O X F hx hm (v := .type "range") rfl rfl (by decide) ?_))
  refine callFlat (.t "range") (hp env) (args_of (he env) ((RefL.cons hf (.cons hg .nil he2) he) pos R F q1 X fun as1 h1 t1 xs p1 X1 hxs => ?_))
  refine rvs2 hxs fun z z2 hz hz2 => rvInt hz fun t => rvInt hz2 fun u => ?_
  refine call_range_2 (Calls.spliced_nil ?_)
  have b1 := rng_small qi qj
  have X2 := X1.push { cls := .type "range", data := .fields #[.int i t, .int j u, .int 1 t1] }
  refine call_list_range (n := (j - i).toNat) R.handled (IsRange.new h1 i j 1 t u t1) (small_rg b1) (rg_size i j) (rg_n b1) fun h' tk acc c' hk' hl' hio => ?_
  obtain ⟨X4, hv⟩ := (X2.ext hk').adopt (a := (h1.push { cls := .type "range", data := .fields #[.int i t, .int j u, .int 1 t1] }).objs.size) (Apart.fresh X2 (fresh_size _) hl') qn ⟨acc, c', hl', range_rvs hio.1 hio.2⟩ rfl
  exact kRetT ze K _ h' tk _ (p1.trans pre1) X4 hv
end
end Mine
end
end
section
set_option maxRecDepth 100000
set_option maxHeartbeats 0
noncomputable section
namespace Mine
open PySem PySem.W PyProof.Rows
noncomputable def vw : Program := view PySem.Challenge.pw_xe0031_01 [0, 1, 3, 4, 5, 7, 8, 9, 10, 12, 14, 15, 16, 17, 18, 19, 20, 21, 22, 23, 24]
noncomputable def vwLoose : List Str := [Str.ofString "IPV4_RE", Str.ofString "_twin_re_1", Str.ofString "Whitespace"]
noncomputable def recOf (s : Stmt) : DefRec := match s with
  | .FunctionDef name a body _ _ _ sc _ _ pos => ⟨name, a, body, sc, pos⟩
  | _ => ⟨Str.ofString "", ⟨[], [], none, [], [], none, []⟩, [], ⟨.function, [], false, false, []⟩, ⟨0, 0, 0, 0⟩⟩
noncomputable def bodyOf (s : Stmt) : List Stmt := match s with
  | .ClassDef _ _ _ body _ _ _ _ _ _ _ => body
  | .For _ _ body _ _ => body
  | _ => []
noncomputable def defK (j : Nat) : DefRec := recOf ((vw.main.body).getD j (.Pass ⟨0, 0, 0, 0⟩))
theorem said0 : PySem.Challenge.rw_xe0031_01.wellSaid = true := by
  rw [PySem.W.Fast.te9446332074065402090]
  kernel_rfl
noncomputable def fromQ (p : Program) (w : World) (N : Nat) (s₀ : Shared) : Option Shared :=
  match s₀.heap.isNs mainGlobals && s₀.gens.size == 0 with
  | true => (PySem.W.Fast.tw14082659384304107361 PySem.W.Fast.tw14364793385576792824 p w s₀.heap.objs.size (s₀.heap.nsMap mainGlobals "__annotations__") N s₀ (topStub p)).bind fun s₁ =>
      match staticsOk (PySem.W.Fast.tw5923862056798008813 p.main.body) s₀.heap s₁.heap && namesBound p s₁.heap && gensDone s₁ && laidKept s₀.heap s₁.heap with
      | true => some s₁
      | false => none
  | false => none
noncomputable def endsQ (p : Program) (w : World) (N : Nat) : Option Shared :=
  ((PySem.W.Fast.tw10274390034422433532 PySem.W.Fast.tw14364793385576792824 (opening p) w N (PySem.W.Fast.tw1435165496053646825 (opening p)).1 (PySem.W.Fast.tw1435165496053646825 (opening p)).2).bind (PySem.W.Fast.tw14289696077712309145 p)).bind (fromQ p w N)
theorem endsQ_eq (p : Program) (w : World) (N : Nat) : openEnds treeTable p w N = endsQ p w N := by
  have e : topFrom treeTable p w N = fromQ p w N := by
    funext s
    unfold topFrom fromQ
    rw [PySem.W.Fast.te14082659384304107361, PySem.W.Fast.te14364793385576792824, PySem.W.Fast.te5923862056798008813]
    rfl
  unfold openEnds fencedOpening endsQ
  rw [e, PySem.W.Fast.te10274390034422433532, PySem.W.Fast.te14364793385576792824, PySem.W.Fast.te1435165496053646825, PySem.W.Fast.te14289696077712309145]
theorem left_of {Xt : Shared → Bool} {α : Type} {Yf : Shared → α} {Ya : World → α} {N : Nat}
    (h : ∀ (b : Bool) (w : World), (endsQ PySem.Challenge.rw_xe0031_01.row.prog (w.withFollow "special-get-raises" b) N).map (fun s => (PySem.W.Fast.tw4187177175401517315 vw vwLoose (PySem.W.Fast.tw5923862056798008813 PySem.Challenge.rw_xe0031_01.row.prog.main.body) Xt true s, Yf s)) = some (openGood vw vwLoose, Ya (w.withFollow "special-get-raises" b))) :
    LeftO PySem.Challenge.rw_xe0031_01.row.prog vw vwLoose Xt Yf Ya N := by
  intro w
  refine byRow2 "special-get-raises" (P := fun w => (openEnds treeTable PySem.Challenge.rw_xe0031_01.row.prog w N).map (fun s => (openSeen vw vwLoose (importedModules PySem.Challenge.rw_xe0031_01.row.prog.main.body) Xt true s, Yf s)) = some (openGood vw vwLoose, Ya w)) ?_ ?_ w <;> intro w
  · have q := h false w
    rw [← endsQ_eq, ← PySem.W.Fast.te5923862056798008813, ← PySem.W.Fast.te4187177175401517315] at q
    exact q
  · have q := h true w
    rw [← endsQ_eq, ← PySem.W.Fast.te5923862056798008813, ← PySem.W.Fast.te4187177175401517315] at q
    exact q
theorem byBool {P : Bool → Prop} (a : P false) (b : P true) : ∀ x, P x := fun x => by cases x; exact a; exact b
theorem dropS (h : PySem.Challenge.rw_xe0031_01.row.Holds) : PySem.Challenge.rw_xe0031_01.Holds := holds_law said0 fun _ => h
theorem dropH {α : Type 1} (_ : α) {P : Prop} (_ : True) (h : P) : P := h
section
local macro_rules | `(tactic| o_law) => `(tactic| refine dropS ?_)
local macro_rules | `(tactic| o_head $H) => `(tactic| refine dropH ($H) ?hw ?hc)
local macro_rules | `(tactic| w_witness2) => `(tactic| exact trivial)
open_top hk for PySem.Challenge.rw_xe0031_01
end
noncomputable def asL : List Nat := [2, 3, 32, 34, 35, 37, 38, 39, 41, 42, 44, 45, 49, 50, 51, 53, 54, 56, 57, 61, 62, 63, 70, 71, 72, 73, 76, 83, 85, 86, 88, 89, 90, 91, 92, 95, 97, 98, 100, 101, 112, 114, 115, 117, 118, 119, 121, 122, 124, 125, 126, 128, 129, 131, 132, 133, 135, 136, 138, 139, 140, 142, 143, 145, 146, 147, 149, 150, 152, 153, 154, 156, 157, 159, 160, 161, 162, 163, 164, 165, 168, 171, 172, 173, 176, 177, 178, 180, 181, 183, 184, 185, 187, 188, 190, 191, 192, 195, 196, 197, 200, 201, 202, 204, 205, 207, 208, 209, 211, 212, 214, 215, 216, 218, 219, 221, 222, 223, 226, 227, 228, 231, 232]
theorem leftF (w : World) : (endsQ PySem.Challenge.rw_xe0031_01.row.prog (w.withFollow "special-get-raises" false) 3212).map (fun s => (PySem.W.Fast.tw4187177175401517315 vw vwLoose (PySem.W.Fast.tw5923862056798008813 PySem.Challenge.rw_xe0031_01.row.prog.main.body) (fun s => xlAt vw [] s && recOk (RowW.records (OpenRow.toRowW (OpenLaw.row PySem.Challenge.rw_xe0031_01))) s) true s, asL.map s.heap.get?)) =
    some (openGood vw vwLoose, (hk.heap_1 (w.withFollow "special-get-raises" false).params).map fun p => some p.2) := by kernel_rfl
theorem leftT (w : World) : (endsQ PySem.Challenge.rw_xe0031_01.row.prog (w.withFollow "special-get-raises" true) 3212).map (fun s => (PySem.W.Fast.tw4187177175401517315 vw vwLoose (PySem.W.Fast.tw5923862056798008813 PySem.Challenge.rw_xe0031_01.row.prog.main.body) (fun s => xlAt vw [] s && recOk (RowW.records (OpenRow.toRowW (OpenLaw.row PySem.Challenge.rw_xe0031_01))) s) true s, asL.map s.heap.get?)) =
    some (openGood vw vwLoose, (hk.heap_1 (w.withFollow "special-get-raises" true).params).map fun p => some p.2) := by kernel_rfl
local macro_rules | `(tactic| o_law) => `(tactic| refine holds_law said0 fun said => ?_)
local macro_rules | `(tactic| o_head $H) => `(tactic| (
  refine holds_open (q := vw) (loose := vwLoose) (Xt := fun s => xlAt vw [] s && recOk (RowW.records (OpenRow.toRowW (OpenLaw.row PySem.Challenge.rw_xe0031_01))) s) (XP := XL vw [])
    (Yf := Hook.obs $H) (Ya := Hook.val $H) (YP := Hook.says $H) (N := 3212) ?hl (Hook.of $H) (Hook.keeps $H) (fun s e => xl_of s (Bool.and_eq_true_iff.mp e).1) XL.keeps (d := defK 20) (kwd := []) (by kernel_rfl) (by kernel_rfl) (by kernel_rfl) (fun s e => recFacts_of (Bool.and_eq_true_iff.mp e).2) (by kernel_rfl) (by first | assumption | decide +kernel) (by decide +kernel) ⟨rfl, rfl, rfl, rfl, rfl, by decide +kernel⟩ ?hw ?hc
  case hl => exact left_of (byBool leftF leftT)))
open_top hd for PySem.Challenge.rw_xe0031_01
end Mine
end
end
section
set_option maxRecDepth 100000
set_option linter.unusedVariables false
set_option linter.unusedSectionVars false
set_option autoImplicit false
set_option genSizeOf false
set_option genInjectivity false
noncomputable section
namespace Mine
open PySem PySem.W PyProof.Rows
noncomputable def fnIx : List Nat := [2, 4, 8, 10, 11, 12, 13, 14, 15, 16, 17, 18, 19, 20]
theorem rec_of : ∀ j ∈ fnIx, ∃ k : Nat, (recsOf vw)[k]? = some (defK j) := by
  intro j hj
  simp only [fnIx, List.mem_cons, List.not_mem_nil, or_false] at hj
  rcases hj with rfl | rfl | rfl | rfl | rfl | rfl | rfl | rfl | rfl | rfl | rfl | rfl | rfl | rfl
  · exact ⟨1, by kernel_rfl⟩
  · exact ⟨2, by kernel_rfl⟩
  · exact ⟨3, by kernel_rfl⟩
  · exact ⟨4, by kernel_rfl⟩
  · exact ⟨5, by kernel_rfl⟩
  · exact ⟨6, by kernel_rfl⟩
  · exact ⟨7, by kernel_rfl⟩
  · exact ⟨8, by kernel_rfl⟩
  · exact ⟨9, by kernel_rfl⟩
  · exact ⟨10, by kernel_rfl⟩
  · exact ⟨11, by kernel_rfl⟩
  · exact ⟨12, by kernel_rfl⟩
  · exact ⟨13, by kernel_rfl⟩
  · exact ⟨14, by kernel_rfl⟩
noncomputable def bnL : List Str := [Str.ofString "range", Str.ofString "enumerate", Str.ofString "len", Str.ofString "max", Str.ofString "sum", Str.ofString "str", Str.ofString "chr", Str.ofString "bytes", Str.ofString "sorted", Str.ofString "list", Str.ofString "tuple"]
structure Bn (C : Cx) : Prop where
  no : ∀ x, x ∈ bnL → C.mg x = none
section
variable {C : Cx} {n : Nat} {sc : Sc}
theorem swaps_of {env : Env} {elt : Expr} {gens : List Comprehension} {scope : Scope} {pos p : Pos} {x : Str} {l : Nat} (h : env.scope = sc.s)
    (hk : sc.s.kind = .function) (e : (sc.s.names.lookup x == some .local && p.line == pos.line && !(scope.names.any fun (n, k) => n == x && (k == .local || k == .cell))) = true) :
    swapsWith (.ListComp elt gens scope pos) (some (.Name x p)) l env = pure true := by
  unfold swapsWith
  have hbk : env.blockKind = .function := by
    unfold Env.blockKind
    rw [h, hk]
    rfl
  have hkd : env.kindOf x = sc.s.names.lookup x := by
    unfold Env.kindOf
    rw [h]
  dsimp only
  rw [hbk, hkd]
  congr 1
end
end Mine
end
end
section
set_option maxRecDepth 100000
set_option linter.unusedVariables false
set_option linter.unusedSectionVars false
set_option autoImplicit false
set_option genSizeOf false
set_option genInjectivity false
noncomputable section
namespace Mine
open PySem PySem.W PyProof.Rows
section
variable {C : Cx} {n : Nat} {sc : Sc}
/-! the same operators, with numbers forced -/
noncomputable def opAddF (a b : AV) (os : Store) : Option (AV × Store) := alt (onInt a fun i => onInt b fun j => forceI (i + j) fun k => some (.int k, os)) (opAdd a b os)
theorem opAddF_ok : OpOk C (binaryOp .Add) opAddF := by
  intro A E s hk as st L a b v x y os' Q hh hu e X hx hy K
  refine alt_elim e (fun e => onInt_elim e fun i hi e => onInt_elim e fun j hj z => ?_) fun e => opAdd_ok hh hu e X hx hy K
  subst hi hj
  exact rvInt hx fun t => rvInt hy fun u => wpAny_add_int (kRet ((forceI_eq _ _).symm.trans z) K as _ _ _ (List.prefix_refl _) X ⟨_, rfl⟩)
theorem RefE.addF {l r : Expr} {pos : Pos} {f g} (hf : RefE C n sc l f) (hg : RefE C n sc r g) : RefE C n sc (.BinOp l .Add r pos) (cBin opAddF f g) := RefE.bin opAddF_ok hf hg
noncomputable def opSubF (a b : AV) (os : Store) : Option (AV × Store) := alt (onInt a fun i => onInt b fun j => forceI (i - j) fun k => some (.int k, os)) (opP pSub2 a b os)
theorem RefE.subF {l r : Expr} {pos : Pos} {f g} (hf : RefE C n sc l f) (hg : RefE C n sc r g) : RefE C n sc (.BinOp l .Sub r pos) (cBin opSubF f g) := by
  refine RefE.bin ?_ hf hg
  intro A E s hk as st L a b v x y os' Q hh hu e X hx hy K
  refine alt_elim e (fun e => onInt_elim e fun i hi e => onInt_elim e fun j hj z => ?_) fun e => pSub2_ok hh hu e X hx hy K
  subst hi hj
  exact rvInt hx fun t => rvInt hy fun u => PyProof.Rows.sub_int (kRet ((forceI_eq _ _).symm.trans z) K as _ _ _ (List.prefix_refl _) X ⟨_, rfl⟩)
noncomputable def opAndF (a b : AV) (os : Store) : Option (AV × Store) := onInt a fun i => onNat i fun m => onInt b fun j => onNat j fun k => forceN (Nat.land m k) fun r => some (.int (.ofNat r), os)
theorem RefE.bandF {l r : Expr} {pos : Pos} {f g} (hf : RefE C n sc l f) (hg : RefE C n sc r g) : RefE C n sc (.BinOp l .BitAnd r pos) (cBin opAndF f g) := by
  refine RefE.bin ?_ hf hg
  intro A E s hk as st L a b v x y os' Q hh hu e X hx hy K
  refine onInt_elim e fun i hi e => onNat_elim e fun m hm e => onInt_elim e fun j hj e => onNat_elim e fun k hk z => ?_
  subst hi hm hj hk
  exact rvInt hx fun t => rvInt hy fun u => PyProof.Rows.and_int (kRet ((forceN_eq _ _).symm.trans z) K as _ _ _ (List.prefix_refl _) X ⟨_, rfl⟩)
noncomputable def oEqF := oEq
theorem oEqF_ok : CmpOk C (compareOp .Eq) oEqF := oEq_ok
noncomputable def oLtF := oLt
theorem oLtF_ok : CmpOk C (compareOp .Lt) oLtF := oLt_ok
noncomputable def cItemF := cItem
theorem RefE.itemF {x i : Expr} {pos : Pos} {f g} (hf : RefE C n sc x f) (hg : RefE C n sc i g) (hs : ∀ o y, subscripted i false o y = operate [o, y] (getItem o y) := by intro _ _; rfl) : RefE C n sc (.Subscript x i pos) (cItemF f g) := RefE.item hf hg hs
noncomputable def cTrF := cTr
theorem RefB.valF {e : Expr} {f} (hf : RefE C n sc e f) (he : ∀ env whole, isTrue e env whole = (do let v ← whole; standAt e.pos; holding [v] (truthy v)) := by intro _ _; rfl) : RefB C n sc e (cTrF f) := RefB.val hf he
end
end Mine
end
end
section
set_option maxRecDepth 100000
set_option linter.unusedVariables false
set_option linter.unusedSectionVars false
set_option autoImplicit false
set_option genSizeOf false
set_option genInjectivity false
noncomputable section
namespace Mine
open PySem PySem.W PyProof.Rows
open PySem.Builtin.Str
/-! occurrences, on lists -/
noncomputable def isPre : List Nat → List Nat → Bool
  | [], _ => true
  | _ :: _, [] => false
  | a :: l, b :: r => match Nat.beq a b with
    | true => isPre l r
    | false => false
theorem isPre_iff : ∀ (l r : List Nat), isPre l r = true ↔ r.take l.length = l ∧ l.length ≤ r.length
  | [], _ => by simp [isPre]
  | _ :: _, [] => by simp [isPre]
  | a :: l, b :: r => by
    unfold isPre
    rw [Tr.beq_eq]
    by_cases h : a = b
    · simp [h, isPre_iff l r]
    · have : ¬ b = a := fun e => h e.symm
      simp [h, this]
noncomputable def occGo (sub : List Nat) : List Nat → Nat → Nat → List Nat
  | [], _, _ => []
  | c :: r, i, free => match Nat.ble free i with
    | true => match isPre sub (c :: r) with
      | true => i :: occGo sub r (Nat.succ i) (Nat.add i sub.length)
      | false => occGo sub r (Nat.succ i) free
    | false => occGo sub r (Nat.succ i) free
theorem subAt_iff (s sub : Str) (i : Nat) (h : i + sub.length ≤ s.length) : subAt s sub i = isPre sub.cps.toList (s.cps.toList.drop i) := by
  have e : (s.cps.extract i (i + sub.length)).toList = (s.cps.toList.drop i).take sub.length := by
    rw [Array.toList_extract, List.extract_eq_take_drop, Nat.add_sub_cancel_left]
  have hl : sub.cps.toList.length = sub.length := by simp [Str.length]
  have hs : s.cps.toList.length = s.length := by simp [Str.length]
  unfold subAt
  rw [Bool.eq_iff_iff, beq_iff_eq, isPre_iff, ← Array.toList_inj, e, hl]
  constructor
  · intro q
    exact ⟨q, by rw [List.length_drop, hs]; omega⟩
  · intro q
    exact q.1
theorem occ_go (s sub : Str) (hsub : 1 ≤ sub.length) : ∀ (k i : Nat) (arr : Array Nat) (free : Nat), i + k = s.length + 1 → arr.size ≤ i →
    (forIn (List.range' i k) (arr, free) (StrLaws.occBody s sub s.length (s.length + 1))).run.fst.toList = arr.toList ++ occGo sub.cps.toList (s.cps.toList.drop i) i free
  | 0, i, arr, free, hk, ha => by
    have hs : s.cps.toList.length = s.length := by simp [Str.length]
    rw [List.drop_eq_nil_of_le (by omega)]
    simp [occGo]
  | k + 1, i, arr, free, hk, ha => by
    have hs : s.cps.toList.length = s.length := by simp [Str.length]
    have hl : sub.cps.toList.length = sub.length := by simp [Str.length]
    rw [List.range'_succ, List.forIn_cons]
    by_cases hi : i = s.length
    · -- the end
      subst hi
      have hk0 : k = 0 := by omega
      subst hk0
      rw [List.drop_eq_nil_of_le (by omega)]
      unfold StrLaws.occBody
      rw [if_neg (by intro q; have := q.1.2; omega)]
      simp [occGo]
    · have hlt : i < s.cps.toList.length := by omega
      have hd : s.cps.toList.drop i = s.cps.toList[i] :: s.cps.toList.drop (i + 1) := List.drop_eq_getElem_cons hlt
      rw [hd]
      unfold occGo
      rw [← hd]
      unfold StrLaws.occBody
      have ih := occ_go s sub hsub k (i + 1)
      by_cases hf : free ≤ i
      · rw [Nat.ble_eq.mpr hf]
        dsimp only
        by_cases hp : isPre sub.cps.toList (s.cps.toList.drop i) = true
        · have hp' := (isPre_iff _ _).mp hp
          rw [hl, List.length_drop, hs] at hp'
          have hle : i + sub.length ≤ s.length := by omega
          have hb : subAt s sub i = true := by rw [subAt_iff s sub i hle]; exact hp
          rw [hp, if_pos ⟨⟨⟨by omega, hf⟩, hle⟩, hb⟩]
          have := ih (arr.push i) (i + sub.length) (by omega) (by rw [Array.size_push]; omega)
          refine this.trans ?_
          rw [Array.toList_push, List.append_assoc, hl]
          rfl
        · have hp0 : isPre sub.cps.toList (s.cps.toList.drop i) = false := by simpa using hp
          rw [hp0, if_neg (fun q => hp (by rw [← subAt_iff s sub i q.1.2]; exact q.2))]
          exact ih arr free (by omega) (by omega)
      · rw [show Nat.ble free i = false by rw [Bool.eq_false_iff]; intro q; exact hf (Nat.ble_eq.mp q)]
        rw [if_neg (fun q => hf q.1.1.2)]
        exact ih arr free (by omega) (by omega)
noncomputable def occL (s sub : List Nat) : List Nat := occGo sub s 0 0
theorem occ_is (s sub : List Nat) (h : 1 ≤ sub.length) : occurrences ⟨s.toArray⟩ ⟨sub.toArray⟩ 0 s.length (s.length + 1) = occL s sub := by
  have e := StrLaws.occ_eq ⟨s.toArray⟩ ⟨sub.toArray⟩ 0 s.length (s.length + 1)
  rw [e]
  have := occ_go ⟨s.toArray⟩ ⟨sub.toArray⟩ (by simpa [Str.length] using h) (s.length + 1) 0 #[] 0 (by simp [Str.length]) (by simp)
  simp only [Str.length, List.size_toArray] at this ⊢
  rw [Nat.sub_zero]
  refine this.trans ?_
  simp [occL]
/-- the parts -/
noncomputable def partsL (s : List Nat) (w : Nat) : Nat → List Nat → List (List Nat)
  | i, [] => [s.drop i]
  | i, c :: r => (s.drop i).take (c - i) :: partsL s w (c + w) r
theorem parts_go (s : List Nat) (w : Nat) : ∀ (cuts : List Nat) (i : Nat), ((i :: cuts.map (· + w)).zip (cuts ++ [s.length])).map (fun (i, j) => strSub ⟨s.toArray⟩ i j) = (partsL s w i cuts).map fun l => (⟨l.toArray⟩ : Str)
  | [], i => by
    simp only [List.map_nil, List.nil_append, List.zip_cons_cons, List.zip_nil_left, List.map_cons, partsL]
    congr 1
    unfold strSub
    congr 1
    rw [← Array.toList_inj, Array.toList_extract, List.extract_eq_take_drop]
    exact List.take_of_length_le (by simp)
  | c :: r, i => by
    have ih := parts_go s w r (c + w)
    simp only [List.map_cons, List.cons_append, List.zip_cons_cons, partsL] at ih ⊢
    rw [ih]
    congr 1
    unfold strSub
    congr 1
    rw [← Array.toList_inj, Array.toList_extract, List.extract_eq_take_drop]
theorem parts_is (s : List Nat) (w : Nat) (cuts : List Nat) : partsBetween ⟨s.toArray⟩ cuts w = (partsL s w 0 cuts).map fun l => (⟨l.toArray⟩ : Str) := by
  unfold partsBetween
  have := parts_go s w cuts 0
  exact this
noncomputable def splitL (s sep : List Nat) : List (List Nat) := partsL s sep.length 0 (occL s sep)
/-! joins -/
noncomputable def joinL (sep : List Nat) : List (List Nat) → List Nat
  | [] => []
  | a :: r => a ++ (r.map (sep ++ ·)).flatten
theorem glued_go (sep : List Nat) : ∀ (r : List (List Nat)) (acc : List Nat), ((r.map fun l => (⟨l.toArray⟩ : Str)).foldl (fun acc p => acc ++ (⟨sep.toArray⟩ : Str).cps ++ p.cps) acc.toArray) = (acc ++ (r.map (sep ++ ·)).flatten).toArray
  | [], acc => by simp
  | a :: r, acc => by
    simp only [List.map_cons, List.foldl_cons, List.flatten_cons]
    have := glued_go sep r (acc ++ (sep ++ a))
    rw [← List.append_assoc] at this ⊢
    simp only [List.append_assoc] at this ⊢
    rw [← this]
    congr 1
    simp
theorem glued_is (sep : List Nat) (l : List (List Nat)) : glued ⟨sep.toArray⟩ (l.map fun l => (⟨l.toArray⟩ : Str)) = ⟨(joinL sep l).toArray⟩ := by
  unfold glued
  cases l with
  | nil => rfl
  | cons a r =>
    congr 1
    exact glued_go sep r a
section
variable {C : Cx} {n : Nat} {sc : Sc}
noncomputable def txtA (cs : List Nat) (a : AV) : Option (List Nat) := alt (onStr a fun s => some s) (onSym a fun y => some (syS cs y))
theorem txtA_is {as : List Addr} {a : AV} {t : List Nat} {v : Value} (e : txtA C.cs a = some t) (h : RV C as a v) : ∃ tk, v = .str ⟨t.toArray⟩ tk :=
  alt_elim e (fun e => onStr_elim e fun s q z => by cases z; subst q; exact h) fun e => onSym_elim e fun y q z => by cases z; subst q; exact h
noncomputable def txtsA (cs : List Nat) : List AV → Option (List (List Nat))
  | [] => some []
  | a :: r => o1 (txtA cs a) fun t => o1 (txtsA cs r) fun l => some (t :: l)
theorem txtsA_are {as : List Addr} {xs : List AV} : ∀ {vs : List Value} {ts : List (List Nat)}, txtsA C.cs xs = some ts → RVs C as xs vs → ∃ l : List (Str × Tok), vs = strValues l ∧ l.map (·.1) = ts.map fun t => (⟨t.toArray⟩ : Str) := by
  induction xs with
  | nil => intro vs ts e h; cases e; exact ⟨[], h, rfl⟩
  | cons a r ih =>
    intro vs ts e h
    refine o1_elim e fun tx q e => o1_elim e fun l q2 z => ?_
    obtain ⟨v, t, e2, h1, h2⟩ := h
    obtain ⟨l', rfl, hl⟩ := ih q2 h2
    obtain ⟨tk, rfl⟩ := txtA_is q h1
    cases z
    exact ⟨(⟨tx.toArray⟩, tk) :: l', by rw [e2]; rfl, by simp [hl]⟩
noncomputable def totLen : List (List Nat) → Nat
  | [] => 0
  | a :: r => a.length + totLen r
theorem fold_len (sep : List Nat) : ∀ (ts : List (List Nat)) (k : Nat), ((ts.map fun t => (⟨t.toArray⟩ : Str))).foldl (fun x y => x + y.length + sep.length) k = k + totLen ts + ts.length * sep.length
  | [], k => by simp [totLen]
  | a :: r, k => by
    simp only [List.map_cons, List.foldl_cons, totLen, List.length_cons]
    rw [fold_len sep r]
    simp only [Str.length, List.size_toArray]
    rw [Nat.succ_mul]
    omega
/-- a join of a list of texts -/
theorem join_any {A : Around} {E : Value → Shared → Prop} {s : Shared} {a : Addr} {items : Array Value} {m : Nat} {sep : List Nat} {t : Tok} {ts : List (List Nat)} {Q : Value → Shared → Prop}
    (hl : IsL s.heap a items m) (h : ∃ l : List (Str × Tok), items.toList = strValues l ∧ l.map (·.1) = ts.map fun t => (⟨t.toArray⟩ : Str)) (hb : totLen ts + ts.length * sep.length ≤ 10000)
    (K : ∀ tk t', Q (.str ⟨(joinL sep ts).toArray⟩ t') { s with toks := tk }) : wpAny (model prog C.w) A (call (.builtin "str.join") [.str ⟨sep.toArray⟩ t, .ref a]) Q E s := by
  obtain ⟨l, hi, hl2⟩ := h
  refine call_meets F.slot_str_join (typeIs_str s _ t) F.entry_str_join (F.args_str_join_2 _ _) (meets_str_join_list ⟨sep.toArray⟩ t a l ?_) ⟨?_, ?_⟩
  · unfold Builtin.Str.tooLong
    rw [hl2, ← Array.foldl_toList]
    have e := fold_len sep ts 0
    have e2 : (List.map (fun t => (⟨t.toArray⟩ : Str)) ts).foldl (fun x y => x + y.length + (⟨sep.toArray⟩ : Str).length) 0 = 0 + totLen ts + ts.length * sep.length := e
    simp only [decide_eq_false_iff_not]
    show ¬ (List.map (fun t => (⟨t.toArray⟩ : Str)) ts).foldl (fun x y => x + y.length + (⟨sep.toArray⟩ : Str).length) 0 > sizeLine
    rw [e2, line_is]
    omega
  · have : items = (strValues l).toArray := by rw [← hi]
    rw [← this]
    exact hl.isList
  · have hg : Builtin.Str.glued ⟨sep.toArray⟩ (l.map (·.1)) = ⟨(joinL sep ts).toArray⟩ := by rw [hl2]; exact glued_is sep ts
    have hlen : (joinL sep ts).length ≤ totLen ts + ts.length * sep.length := by
      cases ts with
      | nil => simp [joinL]
      | cons a r =>
        have : ∀ r : List (List Nat), ((r.map (sep ++ ·)).flatten).length = totLen r + r.length * sep.length := by
          intro r
          induction r with
          | nil => simp [totLen]
          | cons b r ih => simp only [List.map_cons, List.flatten_cons, List.length_append, ih, totLen, List.length_cons, Nat.succ_mul]; omega
        simp only [joinL, List.length_append, this, totLen, List.length_cons, Nat.succ_mul]
        omega
    have other : (Made.str (Builtin.Str.glued ⟨sep.toArray⟩ (l.map (·.1)))).post (fun v s' => wants Q E (.ok (.ret v)) s') s := by
      refine ⟨?_, ?_⟩
      · rw [hg, line_is]
        simp only [Str.length, List.size_toArray]
        omega
      · rw [hg]
        exact K _ _
    unfold joinMade
    split
    · rename_i p
      have h1 : ts = [p.1.cps.toList] := by
        cases ts with
        | nil => simp at hl2
        | cons x r =>
          simp only [List.map_cons, List.map_nil, List.cons.injEq] at hl2
          have hr : r = [] := by simpa using hl2.2.symm
          rw [hr, hl2.1]
      have h2 := K s.toks p.2
      rw [h1] at h2
      simp only [joinL, List.map_nil, List.flatten_nil, List.append_nil] at h2
      exact h2
    · exact other
end
end Mine
end
end
section
set_option maxRecDepth 100000
set_option linter.unusedVariables false
set_option linter.unusedSectionVars false
set_option autoImplicit false
set_option genSizeOf false
set_option genInjectivity false
noncomputable section
namespace Mine
open PySem PySem.W PyProof.Rows
open PySem.Builtin.Str
section
variable {C : Cx} {n : Nat} {sc : Sc}
/-! slices of texts and of the pieces' runs -/
noncomputable def SlOk (C : Cx) (sop : AV → Option Int → Option Int → Store → Option (AV × Store)) : Prop :=
  ∀ ⦃A : Around⦄ ⦃E : Value → Shared → Prop⦄ ⦃s : Shared⦄ ⦃hk : Heap⦄ ⦃as : List Addr⦄ ⦃st : St⦄ ⦃L : Fm⦄ ⦃a v : AV⦄ ⦃x y z : Value⦄ ⦃pl pu : Option Int⦄ ⦃os' : Store⦄ ⦃sl : Addr⦄ ⦃value slice : Expr⦄ ⦃Q : Value → Shared → Prop⦄,
    A.handled = none → sop a pl pu st.os = some (v, os') → Rel C hk as st L s.heap → RV C as a x → s.heap.IsSliceOf sl y z .none → IsPart y pl → IsPart z pu → (∀ o i, subscripted slice false o i = operate [i, o] (getItem o i)) →
    (∀ as' h' tk val, as <+: as' → Rel C hk as' ⟨st.loc, os'⟩ L h' → RV C as' v val → Q val { s with heap := h', toks := tk }) → wpAny (model prog C.w) A (subscriptTail value slice x (.ref sl)) Q E s
noncomputable def cSliceX (sop : AV → Option Int → Option Int → Store → Option (AV × Store)) (f g h : St → Option (AV × St)) : St → Option (AV × St) := fun s => ob (f s) fun a s1 => ob (g s1) fun lo s2 => ob (h s2) fun hi s3 => o1 (partOf lo) fun l => o1 (partOf hi) fun u =>
  ob (sop a l u s3.os) fun v o => mkS v s3 o
theorem RefE.sliceX {sop} (hs : SlOk C sop) {x : Expr} {lo hi : Option Expr} {p pos : Pos} {f g h} (hf : RefE C n sc x f) (hg : RefO C n sc lo g) (hh : RefO C n sc hi h) : RefE C n sc (.Subscript x (.Slice lo hi none p) pos) (cSliceX sop f g h) := by
  intro A env E s hk as st st' v Q R F e X K
  refine ob_elim e fun a s1 q1 e => ob_elim e fun l s2 q2 e => ob_elim e fun u s3 q3 e => o1_elim e fun pl ql e => o1_elim e fun pu qu e => ob_elim e fun w o q4 z => ?_
  refine Subscript_ (hf R F q1 X fun as1 h1 t1 x p1 X1 hx => wpAny_Slice (hg R F q2 X1 fun as2 h2 t2 y p2 X2 hy => hh R F q3 X2 fun as3 h3 t3 z3 p3 X3 hz => ?_))
  show wpAny _ _ (evalPart none env) _ _ _
  rw [evalPart_none]
  refine wpAny_pure ?_
  have X4 := X3.push { cls := .type "slice", data := .fields #[y, z3, .none] }
  exact hs (s := { s with heap := _, toks := t3 }) R.handled q4 X4 (hx.mono (p2.trans p3)) (Heap.IsSliceOf.new h3 y z3 .none) (partOf_ok ql hy) (partOf_ok qu hz) (fun _ _ => rfl) fun as5 h5 t5 val p5 X5 hv => kRetT z K as5 h5 t5 val ((p1.trans (p2.trans p3)).trans p5) X5 hv
noncomputable def natPart (d : Nat) : Option Int → Option Nat
  | none => some d
  | some (.ofNat k) => some k
  | _ => none
noncomputable def slStr (a : AV) (pl pu : Option Int) (os : Store) : Option (AV × Store) := onStr a fun s => o1 (natPart 0 pl) fun i => o1 (natPart s.length pu) fun j => bT (Nat.ble i j) <| bT (Nat.ble j s.length) <| bT (Nat.ble s.length 2000) <|
  some (.str ((s.drop i).take (Nat.sub j i)), os)
theorem part_of {y : Value} {p : Option Int} (h : IsPart y p) : ∃ q : Option (Int × Tok), y = partValue q ∧ q.map (·.1) = p := by
  cases h with
  | none => exact ⟨none, rfl, rfl⟩
  | int i t => exact ⟨some (i, t), rfl, rfl⟩
theorem slice_post {x : Str} {t : Tok} {l u : Option (Int × Tok)} {Q : Value → Shared → Prop} {s : Shared} (hx : x.length ≤ sizeLine) (h : ∀ t' tk, Q (.str (StrLaws.sliceText x (l.map (·.1)) (u.map (·.1))) t') { s with toks := tk }) : (sliceMade x t l u none).post Q s := by
  have hle := Txt.slice_le x (l.map (·.1)) (u.map (·.1))
  unfold sliceMade
  unfold StrLaws.sliceText at h
  unfold Txt.slice at hle
  by_cases q : (((1 : Int) == 1 && (strSliceIndices (l.map (·.1)) (u.map (·.1)) 1 x.length).length == x.length) = true)
  · rw [if_pos q] at h
    rw [if_pos (show (((none : Option (Int × Tok)).map (·.1)).getD 1 == 1 && (slicePicked x l u none).length == x.length) = true from q)]
    exact h t s.toks
  · rw [if_neg q] at h hle
    rw [if_neg (show ¬ (((none : Option (Int × Tok)).map (·.1)).getD 1 == 1 && (slicePicked x l u none).length == x.length) = true from q)]
    exact ⟨Nat.le_trans hle hx, h _ _⟩
theorem text_nat {s : List Nat} {pl pu : Option Int} {i j : Nat} (h1 : natPart 0 pl = some i) (h2 : natPart s.length pu = some j) (hij : i ≤ j) (hj : j ≤ s.length) :
    StrLaws.sliceText ⟨s.toArray⟩ pl pu = ⟨((s.drop i).take (j - i)).toArray⟩ := by
  have hl : (⟨s.toArray⟩ : Str).length = s.length := by simp [Str.length]
  have key := StrLaws.sliceText_nat ⟨s.toArray⟩ hij (by rw [hl]; exact hj)
  have a1 : StrLaws.sliceText ⟨s.toArray⟩ pl pu = StrLaws.sliceText ⟨s.toArray⟩ (some (i : Int)) pu := by
    cases pl with
    | none => cases h1; unfold StrLaws.sliceText; rw [StrLaws.sliceIdx_none_lo]; rfl
    | some k =>
      cases k with
      | ofNat k => cases h1; rfl
      | negSucc k => cases h1
  have a2 : StrLaws.sliceText ⟨s.toArray⟩ (some (i : Int)) pu = StrLaws.sliceText ⟨s.toArray⟩ (some (i : Int)) (some (j : Int)) := by
    cases pu with
    | none => cases h2; unfold StrLaws.sliceText; rw [StrLaws.sliceIdx_none_hi, hl]
    | some k =>
      cases k with
      | ofNat k => cases h2; rfl
      | negSucc k => cases h2
  rw [a1, a2, key]
theorem slStr_ok : SlOk C slStr := by
  intro A E s hk as st L a v x y z pl pu os' sl value slice Q hh e X hx hsl hy hz hsub K
  refine onStr_elim e fun l hi e => o1_elim e fun i qi e => o1_elim e fun j qj e => bT_elim e fun q1 e => bT_elim e fun q2 e => bT_elim e fun q3 z9 => ?_
  subst hi
  obtain ⟨ql, rfl, hql⟩ := part_of hy
  obtain ⟨qu, rfl, hqu⟩ := part_of hz
  obtain ⟨o, ho, hc, hd⟩ := hsl
  refine rvStr hx fun t => tail_any (T := "str") (typeIs_str s _ t) F.slot_str_getitem.lookup ?_ (hsub _ _)
  refine wpAny_getItem_str_slice (l := ql) (u := qu) (st := none) ⟨o, ho, hc, hd⟩ rfl (slice_post (len_s q3 (by simp [Str.length])) fun t' tk => ?_)
  rw [hql, hqu, text_nat qi qj (ble_iff.mp q1) (ble_iff.mp q2)]
  exact kRet z9 K as s.heap tk _ (List.prefix_refl _) X ⟨t', rfl⟩
noncomputable def plNone {β : Type} (p : Option Int) (k : Option β) : Option β := match p with
  | none => k
  | _ => none
theorem plNone_elim {β : Type} {p : Option Int} {k : Option β} {r : β} {P : Prop} (e : plNone p k = some r) (h : p = none → k = some r → P) : P := by
  cases p with
  | none => exact h rfl e
  | some _ => exact noS e
noncomputable def plM1 {β : Type} (p : Option Int) (k : Option β) : Option β := match p with
  | some (.negSucc 0) => k
  | _ => none
theorem plM1_elim {β : Type} {p : Option Int} {k : Option β} {r : β} {P : Prop} (e : plM1 p k = some r) (h : p = some (.negSucc 0) → k = some r → P) : P := by
  cases p with
  | none => exact noS e
  | some i => cases i with
    | ofNat _ => exact noS e
    | negSucc m => cases m with
      | zero => exact h rfl e
      | succ _ => exact noS e
noncomputable def slRuns (a : AV) (pl pu : Option Int) (os : Store) : Option (AV × Store) := onRef a fun i => onRuns (os.get i) fun k => rkRuns k fun d rev => bT (Nat.ble d 7) <|
  alt (plNone pl <| plM1 pu <| os.new (.runs (.init d rev))) (plM1 pl <| plNone pu <| os.new (.runs (.last d)))
/-- what must hold of the pieces -/
structure CsOk (cs : List Nat) : Prop where
  split : ∀ d, 1 ≤ d → d ≤ 7 → (occL (leadS cs d) [9]).length ≠ 0 ∧ splitL (leadS cs d) [9] = rkS cs (.runs d false)
  small : ∀ d, d ≤ 7 → totLen (rkS cs (.runs d false)) ≤ 50 ∧ (rkS cs (.runs d false)).length ≤ 50 ∧ (leadS cs d).length ≤ 50
theorem Rel.runsAt {hk : Heap} {as : List Addr} {st : St} {L : Fm} {h : Heap} (X : Rel C hk as st L h) {i : Nat} {k : Rk} (e : st.os.get i = some (.runs k)) {x : Value} (hx : RV C as (.ref i) x) :
    ∃ a items m, x = .ref a ∧ as[i]? = some a ∧ IsL h a items m ∧ RVs C as ((rkS C.cs k).map .str) items.toList := by
  obtain ⟨a, ha, items, m, hl, hr⟩ := X.S.obj i _ e
  obtain ⟨a', ha', rfl⟩ := hx
  rw [ha] at ha'
  cases ha'
  exact ⟨a, items, m, rfl, ha, hl, hr⟩
theorem Rel.pushRuns {hk : Heap} {as : List Addr} {st : St} {L : Fm} {h : Heap} (X : Rel C hk as st L h) {k : Rk} {v : AV} {os' : Store} (e : st.os.new (.runs k) = some (v, os')) {items : Array Value} (r : RVs C as ((rkS C.cs k).map .str) items.toList) :
    Rel C hk (as ++ [h.objs.size]) ⟨st.loc, os'⟩ L (h.push { cls := .type "list", data := .seq items }) ∧ RV C (as ++ [h.objs.size]) v (.ref h.objs.size) :=
  X.new e (fun _ _ q => Heap.get?_push_of_some _ q) (fresh_size _) (Heap.get?_push_size _ rfl) ⟨items, 0, Heap.get?_push_size _ rfl, r.mono ⟨_, rfl⟩⟩ rfl
/-- every list of runs is short -/
noncomputable def RkSmall (k : Rk) : Prop := match k with
  | .runs d _ => d ≤ 7
  | .init d _ => d ≤ 7
  | .last d => d ≤ 7
theorem len_init (cs : List Nat) (d : Nat) (rev : Bool) : (initS cs d rev).length = (runsOf cs d).1.length := by
  cases rev <;> simp [initS]
theorem runs_len {cs : List Nat} (c : CsOk cs) (d : Nat) (hd : d ≤ 7) (rev : Bool) : (rkS cs (.runs d rev)).length ≤ 50 := by
  have := (c.small d hd).2.1
  simp only [rkS, List.length_append, len_init, List.length_singleton] at this ⊢
  exact this
theorem init_pick (cs : List Nat) (d : Nat) (rev : Bool) {n : Nat} (h : n = (initS cs d rev).length + 1) : initS cs d rev = ((rkS cs (.runs d rev)).drop 0).take (clipAt n (Int.negSucc 0) - 0) := by
  rw [clipN_eq]
  show initS cs d rev = ((rkS cs (.runs d rev)).drop 0).take (Nat.sub n 1 - 0)
  rw [h, List.drop_zero]
  show initS cs d rev = (initS cs d rev ++ [lastS cs d]).take ((initS cs d rev).length + 1 - 1 - 0)
  simp
theorem last_pick (cs : List Nat) (d : Nat) (rev : Bool) {n : Nat} (h : n = (initS cs d rev).length + 1) : [lastS cs d] = ((rkS cs (.runs d rev)).drop (clipAt n (Int.negSucc 0))).take (n - clipAt n (Int.negSucc 0)) := by
  rw [clipN_eq]
  show [lastS cs d] = ((initS cs d rev ++ [lastS cs d]).drop (Nat.sub n 1)).take (n - Nat.sub n 1)
  rw [h]
  show [lastS cs d] = ((initS cs d rev ++ [lastS cs d]).drop ((initS cs d rev).length + 1 - 1)).take ((initS cs d rev).length + 1 - ((initS cs d rev).length + 1 - 1))
  simp
theorem runs_lens {cs : List Nat} (c : CsOk cs) {as : List Addr} {d : Nat} {rev : Bool} {items : Array Value} (qd : Nat.ble d 7 = true) (hr : RVs C as ((rkS cs (.runs d rev)).map .str) items.toList) : items.size ≤ sizeLine ∧ items.size = (initS cs d rev).length + 1 := by
  have l1 := hr.length
  have l2 := runs_len c d (ble_iff.mp qd) rev
  simp only [Array.length_toList, List.length_map] at l1
  rw [line_is]
  exact ⟨by omega, by rw [l1]; simp [rkS]⟩
theorem slRuns_ok (cok : CsOk C.cs) : SlOk C slRuns := by
  intro A E s hk as st L a v x y z pl pu os' sl value slice Q hh e X hx hsl hy hz hsub K
  refine onRef_elim e fun i hi e => onRuns_elim e fun k q e => rkRuns_elim e fun d rev hk2 e => bT_elim e fun qd e9 => ?_
  subst hi hk2
  obtain ⟨a, items, m, rfl, ha, hl, hr⟩ := X.runsAt q hx
  have l2 := runs_lens cok qd hr
  refine tail_any (T := "list") hl.isList.typeIs slot_list_getitem.lookup ?_ (hsub _ _)
  refine wpAny_getItem_list_slice hl.isList hsl hy hz .none (by simp) ?_ l2.1
  refine alt_elim e9 (fun e => plNone_elim e fun h1 e => plM1_elim e fun h2 z9 => ?_) fun e => plM1_elim e fun h1 e => plNone_elim e fun h2 z9 => ?_
  · have X5 := X.pushRuns z9 (items := slicePick items pl pu none) (by
      rw [slicePick_plain, h1, h2]
      rw [show rkS C.cs (.init d rev) = _ from init_pick C.cs d rev l2.2, List.map_take, List.map_drop]
      exact (hr.drop _).take _)
    exact K _ _ s.toks _ pre1 X5.1 X5.2
  · have X5 := X.pushRuns z9 (items := slicePick items pl pu none) (by
      rw [slicePick_plain, h1, h2]
      rw [show rkS C.cs (.last d) = _ from last_pick C.cs d rev l2.2, List.map_take, List.map_drop]
      exact (hr.drop _).take _)
    exact K _ _ s.toks _ pre1 X5.1 X5.2
end
end Mine
end
end
section
set_option maxRecDepth 100000
set_option linter.unusedVariables false
set_option linter.unusedSectionVars false
set_option autoImplicit false
set_option genSizeOf false
set_option genInjectivity false
noncomputable section
namespace Mine
open PySem PySem.W PyProof.Rows
open PySem.Builtin.Str
section
variable {C : Cx} {n : Nat} {sc : Sc}
/-- runs[..][::-1] -/
noncomputable def cRevR (f : St → Option (AV × St)) : St → Option (AV × St) := fun s => ob (f s) fun a s1 => onRef a fun i => onRuns (s1.os.get i) fun k => rkInit k fun d rev => bT (!rev) <| bT (Nat.ble d 7) <| ob (s1.os.new (.runs (.init d true))) fun v o => mkS v s1 o
theorem init_line {cs : List Nat} (c : CsOk cs) {as : List Addr} {d : Nat} {rev : Bool} {items : Array Value} (qd : Nat.ble d 7 = true) (hr : RVs C as ((rkS cs (.init d rev)).map .str) items.toList) : items.size ≤ sizeLine := by
  have l1 := hr.length
  have l2 := runs_len c d (ble_iff.mp qd) rev
  simp only [Array.length_toList, List.length_map, rkS, List.length_append, List.length_singleton] at l1 l2
  rw [line_is]
  omega
theorem init_rev (cs : List Nat) (d : Nat) : (rkS cs (.init d true)).map AV.str = ((rkS cs (.init d false)).map AV.str).reverse := by
  simp only [rkS, initS]
  rw [List.map_reverse]
theorem not_t {b : Bool} (h : (!b) = true) : b = false := by cases b <;> first | rfl | cases h
theorem RefE.revR (cok : CsOk C.cs) {x : Expr} {p p1 p2 pos : Pos} {k : Nat} {f} (hf : RefE C n sc x f) : RefE C n sc (.Subscript x (.Slice none none (some (.UnaryOp .USub (.Constant (.int 1) k p1) p2)) p) pos) (cRevR f) := by
  intro A env E s hk as st st' v Q R F e X K
  refine ob_elim e fun a s1 q1 e => onRef_elim e fun i hi e => onRuns_elim e fun k' qx e => rkInit_elim e fun d rev hk2 e => bT_elim e fun hr2 e => bT_elim e fun qd e => ob_elim e fun w o qn z => ?_
  cases not_t hr2
  subst hi hk2
  refine Subscript_ (hf R F q1 X fun as1 h1 t1 x p1 X1 hx => wpAny_Slice ?_)
  show wpAny _ _ (evalPart none env) _ _ _
  rw [evalPart_none]
  refine wpAny_pure (wpAny_pure ?_)
  rw [evalPart_some]
  refine wpAny_UnaryOp (wpAny_Constant_int (P.neg_int ?_))
  obtain ⟨a, items, m, rfl, ha, hl, hr⟩ := X1.runsAt qx hx
  have X4 := X1.push { cls := .type "slice", data := .fields #[.none, .none, .int (-1) (t1 + 1)] }
  refine tail_any (T := "list") (IsL.isList (hl.push _)).typeIs slot_list_getitem.lookup ?_ (ops := [.ref a, .ref h1.objs.size]) rfl
  refine wpAny_getItem_list_slice (hl.push _).isList (Heap.IsSliceOf.new h1 .none .none _) .none .none (.int (-1) _) (by simp) ?_ (init_line cok qd hr)
  have X5 := X4.pushRuns qn (items := slicePick items none none (some (-1))) (by
    rw [krv_pick, init_rev]
    exact hr.reverse)
  exact kRetT z K _ _ _ _ (p1.trans pre1) X5.1 X5.2
/-- runs of the first, and the last -/
noncomputable def opAddR (a b : AV) (os : Store) : Option (AV × Store) := alt
  (onRef a fun i => onRef b fun j => onRuns (os.get i) fun k => rkInit k fun d rev => onRuns (os.get j) fun k2 => rkLast k2 fun d2 => bT (Nat.beq d d2) <| bT (Nat.ble d 7) <| os.new (.runs (.runs d rev)))
  (onSym a fun y => onWlead y fun d rev => onStr b fun l => on1 l fun c => bT (Nat.ble d 7) <| some (.sym (.wtext d rev c), os))
theorem totLen_app (l r : List (List Nat)) : totLen (l ++ r) = totLen l + totLen r := by
  induction l with
  | nil => simp [totLen]
  | cons a l ih => simp only [List.cons_append, totLen, ih]; omega
theorem totLen_rev (l : List (List Nat)) : totLen l.reverse = totLen l := by
  induction l with
  | nil => rfl
  | cons a r ih => rw [List.reverse_cons, totLen_app, ih]; simp only [totLen]; omega
theorem wlead_len {cs : List Nat} (c : CsOk cs) {d : Nat} (hd : d ≤ 7) (rev : Bool) : (wleadS cs d rev).length ≤ 200 := by
  have h1 := c.small d hd
  have h2 : ∀ l : List (List Nat), ((l.map (· ++ [9])).flatten).length = totLen l + l.length := by
    intro l
    induction l with
    | nil => rfl
    | cons a r ih => simp only [List.map_cons, List.flatten_cons, List.length_append, ih, totLen, List.length_cons, List.length_nil]; omega
  have h4 : totLen (initS cs d rev) = totLen (initS cs d false) := by
    cases rev with
    | false => rfl
    | true => exact totLen_rev _
  simp only [rkS, totLen_app, totLen, List.length_append, List.length_singleton] at h1
  unfold wleadS
  rw [List.length_append, h2, h4, len_init]
  have h5 := len_init cs d false
  omega
theorem runs_add {cs : List Nat} (c : CsOk cs) {as : List Addr} {d : Nat} {rev : Bool} {a b : Array Value} (qd : Nat.ble d 7 = true) (hr : RVs C as ((rkS cs (.init d rev)).map .str) a.toList) (hr2 : RVs C as ((rkS cs (.last d)).map .str) b.toList) : a.toList.length + b.toList.length ≤ sizeLine := by
  have l1 := hr.length
  have l2 := hr2.length
  have l3 := runs_len c d (ble_iff.mp qd) rev
  simp only [List.length_map, rkS, List.length_append, List.length_singleton] at l1 l2 l3
  rw [line_is]
  omega
theorem opAddR_ok (cok : CsOk C.cs) : OpOk C (binaryOp .Add) opAddR := by
  intro A E s hk as st L a b v x y os' Q hh hu e X hx hy K
  refine alt_elim e (fun e => onRef_elim e fun i hi e => onRef_elim e fun j hj e => onRuns_elim e fun k q1 e => rkInit_elim e fun d rev hk1 e => onRuns_elim e fun k2 q2 e => rkLast_elim e fun d2 hk2 e => bT_elim e fun qe e => bT_elim e fun qd z => ?_)
    fun e => onSym_elim e fun yy hi e => onWlead_elim e fun d rev hd e => onStr_elim e fun l hl e => on1_elim e fun c hc e => bT_elim e fun qd z => ?_
  · cases Nat.eq_of_beq_eq_true qe
    subst hi hj hk1 hk2
    obtain ⟨a, items, m, rfl, ha, hl, hr⟩ := X.runsAt q1 hx
    obtain ⟨a2, items2, m2, rfl, ha2, hl2, hr2⟩ := X.runsAt q2 hy
    refine P.add_list hl hl2 ?_ (runs_add cok qd hr hr2)
    have X' := X.pushRuns z (items := items ++ items2) (by
      rw [Array.toList_append]
      have := hr.append hr2
      rw [← List.map_append] at this
      exact this)
    exact K _ _ s.toks _ pre1 X'.1 X'.2
  · subst hi hd hl hc
    have l3 := wlead_len cok (ble_iff.mp qd) rev
    refine rvSym hx fun t => rvStr hy fun u => add_str (fun t' tk => kRet z K as s.heap tk _ (List.prefix_refl _) X ⟨t', ?_⟩) (by rw [line_is]; simp [Str.length, syS]; omega)
    show Value.str (Str.append _ _) _ = _
    simp [Str.append, syS]
theorem RefE.addR (cok : CsOk C.cs) {l r : Expr} {pos : Pos} {f g} (hf : RefE C n sc l f) (hg : RefE C n sc r g) : RefE C n sc (.BinOp l .Add r pos) (cBin opAddR f g) := RefE.bin (opAddR_ok cok) hf hg
/-! count, in -/
noncomputable def oCount (a : List AV) (os : Store) : Option (AV × Store) := onPair a fun a b => onStr a fun s => onStr b fun y => onCons y fun c r => bT (Nat.ble s.length 2000) <| some (.int (.ofNat (occL s (c :: r)).length), os)
theorem oCount_ok : CallOk C (fun vs => call (.builtin "str.count") vs) oCount := by
  intro A E s hk as st L a v x os' Q hh hu e X hx K
  refine onPair_elim e fun x1 x2 ha e => onStr_elim e fun l h1 e => onStr_elim e fun y h2 e => onCons_elim e fun c r hc e => bT_elim e fun q z => ?_
  subst ha h1 h2 hc
  refine rvs2 hx fun w w2 hw hw2 => rvStr hw fun t => rvStr hw2 fun u => call_gives F.slot_str_count (typeIs_str s _ t) F.entry_str_count (F.args_str_count_2 _ _) (gives_str_count _ _ _ _) ?_
  have e2 := occ_is l (c :: r) (by simp)
  have e3 : (⟨l.toArray⟩ : Str).length = l.length := by simp [Str.length]
  show Q (.int _ _) _
  rw [e3, e2]
  exact kRet z K as s.heap _ _ (List.prefix_refl _) X ⟨_, rfl⟩
noncomputable def memN (c : Nat) : List Nat → Bool
  | [] => false
  | a :: r => match Nat.beq c a with
    | true => true
    | false => memN c r
theorem memN_eq (c : Nat) : ∀ l, memN c l = decide (c ∈ l)
  | [] => by simp [memN]
  | a :: r => by
    unfold memN
    rw [Tr.beq_eq]
    by_cases h : c = a
    · simp [h]
    · simp [h, memN_eq c r]
noncomputable def oInS (a b : AV) (_ : Store) : Option Bool := onStr a fun x => on1 x fun c => onStr b fun l => some (memN c l)
theorem oInS_ok : CmpOk C (compareOp .In) oInS := by
  intro A E s hk as st L a b v x y Q hh hu e X hx hy K
  refine onStr_elim e fun x1 h1 e => on1_elim e fun c hc e => onStr_elim e fun l hl z => ?_
  subst h1 hc hl
  refine rvStr hx fun t => rvStr hy fun u => PySem.P.in_str ?_
  rw [show (⟨[c].toArray⟩ : Str) = ⟨#[c]⟩ from rfl, StrLaws.found_one ⟨l.toArray⟩ c]
  have h2 := kRetB z K s.heap s.toks X
  rw [memN_eq] at h2
  simpa using h2
end
end Mine
end
end
section
set_option maxRecDepth 100000
set_option linter.unusedVariables false
set_option linter.unusedSectionVars false
set_option autoImplicit false
set_option genSizeOf false
set_option genInjectivity false
noncomputable section
namespace Mine
open PySem PySem.W PyProof.Rows
open PySem.Builtin.Str
section
variable {C : Cx} {n : Nat} {sc : Sc}
/-! joins -/
noncomputable def strsA : List AV → Option (List (List Nat))
  | [] => some []
  | a :: r => onStr a fun s => o1 (strsA r) fun l => some (s :: l)
theorem strsA_cons {a : AV} {r : List AV} {ts : List (List Nat)} {P : Prop} (e : strsA (a :: r) = some ts) (h : ∀ s l, a = .str s → strsA r = some l → ts = s :: l → P) : P :=
  onStr_elim e fun s q e => o1_elim e fun l q2 z => h s l q q2 (Option.some.inj z).symm
theorem txtsA_cons {cs : List Nat} {a : AV} {r : List AV} {t : List Nat} {l : List (List Nat)} (h1 : txtA cs a = some t) (h2 : txtsA cs r = some l) : txtsA cs (a :: r) = some (t :: l) := by
  unfold txtsA
  rw [h1, h2]
  rfl
theorem strsA_txts (cs : List Nat) {xs : List AV} : ∀ {ts : List (List Nat)}, strsA xs = some ts → txtsA cs xs = some ts := by
  induction xs with
  | nil => intro ts e; exact e
  | cons a r ih => intro ts e; exact strsA_cons e fun s l q q2 z => by rw [z, q]; exact txtsA_cons rfl (ih q2)
noncomputable def pcsPat : Nat → List AV → Option Unit
  | _, [] => some ()
  | j, a :: r => alt (onStr a fun s => bT (eqL s [9]) (bT (Nat.beq j 0) (pcsPat (Nat.succ j) r))) (onSym a fun y => onPc y fun k => bT (Nat.beq k j) (pcsPat (Nat.succ j) r))
theorem pcsPat_txts (cs : List Nat) {u : Unit} {xs : List AV} : ∀ {j : Nat}, pcsPat j xs = some u → txtsA cs xs = some ((List.range' j xs.length).map (pcS cs)) := by
  induction xs with
  | nil => intro j e; rfl
  | cons a r ih =>
    intro j e
    refine alt_elim e (fun e => onStr_elim e fun s q e => bT_elim e fun q1 e => bT_elim e fun q2 z => ?_) fun e => onSym_elim e fun y q e => onPc_elim e fun k q1 e => bT_elim e fun q2 z => ?_
    · have hj : j = 0 := Nat.eq_of_beq_eq_true q2
      rw [eqL_eq] at q1
      have hs : s = [9] := by simpa using q1
      subst hj hs q
      exact txtsA_cons rfl (ih z)
    · have hk : k = j := Nat.eq_of_beq_eq_true q2
      subst hk q1 q
      exact txtsA_cons rfl (ih z)
theorem lead_flat (cs : List Nat) : ∀ d, leadS cs d = ((List.range d).map (pcS cs)).flatten
  | 0 => rfl
  | d + 1 => by
    rw [List.range_succ]
    simp [leadS, lead_flat cs d]
theorem joinL_nil : ∀ l : List (List Nat), joinL [] l = l.flatten
  | [] => rfl
  | a :: r => by simp [joinL]
theorem totLen_eq : ∀ l : List (List Nat), totLen l = l.flatten.length
  | [] => rfl
  | a :: r => by simp [totLen, totLen_eq r]
theorem joinL_snoc (sep x : List Nat) : ∀ l : List (List Nat), joinL sep (l ++ [x]) = (l.map (· ++ sep)).flatten ++ x
  | [] => by simp [joinL]
  | a :: r => by
    have key : ∀ r : List (List Nat), ((r ++ [x]).map (sep ++ ·)).flatten = sep ++ ((r.map (· ++ sep)).flatten ++ x) := by
      intro r
      induction r with
      | nil => simp
      | cons b r ih =>
        simp only [List.cons_append, List.map_cons, List.flatten_cons, ih, List.append_assoc]
    rw [List.cons_append, joinL, key r]
    simp
noncomputable def oJoin (a : List AV) (os : Store) : Option (AV × Store) := onPair a fun a b => onStr a fun sep => onRef b fun i => alt
  (onList (os.get i) fun xs => on0 sep <| bT (Nat.ble 1 xs.length) <| bIf (Nat.ble xs.length 7) (o1 (pcsPat 0 xs) fun _ => some (.sym (.lead xs.length), os))
    (o1 (strsA xs) fun ts => bT (Nat.ble (Nat.add (totLen ts) xs.length) 2000) (some (.str (joinL [] ts), os))))
  (onRuns (os.get i) fun k => rkRuns k fun d rev => bT (eqL sep [9]) <| bT (Nat.ble d 7) <| some (.sym (.wlead d rev), os))
theorem map_str_txts (cs : List Nat) (l : List (List Nat)) : txtsA cs (l.map .str) = some l := by
  induction l with
  | nil => rfl
  | cons a r ih => exact txtsA_cons rfl ih
theorem tot_runs {cs : List Nat} (c : CsOk cs) {d : Nat} (hd : d ≤ 7) (rev : Bool) : totLen (rkS cs (.runs d rev)) ≤ 300 := by
  have h := wlead_len c hd rev
  have hj : joinL [9] (rkS cs (.runs d rev)) = wleadS cs d rev := joinL_snoc [9] _ _
  rw [← hj] at h
  have key : ∀ l : List (List Nat), totLen l ≤ (joinL [9] l).length := by
    intro l
    cases l with
    | nil => simp [totLen, joinL]
    | cons a r =>
      have : ∀ r : List (List Nat), totLen r ≤ ((r.map ([9] ++ ·)).flatten).length := by
        intro r
        induction r with
        | nil => simp [totLen]
        | cons b r ih => simp only [List.map_cons, List.flatten_cons, List.length_append, totLen] at ih ⊢; omega
      have := this r
      simp only [totLen, joinL, List.length_append]
      omega
  have := key (rkS cs (.runs d rev))
  omega
theorem pcs_join (cs : List Nat) (n : Nat) : joinL [] ((List.range' 0 n).map (pcS cs)) = leadS cs n := by
  rw [joinL_nil, lead_flat, List.range_eq_range']
theorem oJoin_ok (cok : CsOk C.cs) : CallOk C (fun vs => call (.builtin "str.join") vs) oJoin := by
  intro A E s hk as st L a v x os' Q hh hu e X hx K
  refine onPair_elim e fun x1 x2 ha e => onStr_elim e fun sep hi e => onRef_elim e fun i hj e1 => ?_
  subst ha hi hj
  refine rvs2 hx fun w w2 hw1 hw => rvStr hw1 fun t => ?_
  refine alt_elim e1 (fun e => onList_elim e fun xs q e => on0_elim e fun hs e => bT_elim e fun q0 z => ?_) fun e => onRuns_elim e fun k q e => rkRuns_elim e fun d rev hk e => bT_elim e fun q1 e => bT_elim e fun q2 z => ?_
  · subst hs
    refine X.listE q hw fun a items m ha hl hr => ?_
    refine bIf_elim z (fun q1 e => o1_elim e fun u q2 z => ?_) fun _ e => o1_elim e fun ts q2 e => bT_elim e fun q3 z => ?_
    · refine join_any (sep := []) hl (txtsA_are (pcsPat_txts C.cs q2) hr) ?_ fun tk t' => kRet z K as s.heap tk _ (List.prefix_refl _) X ⟨t', ?_⟩
      · have := (cok.small _ (ble_iff.mp q1)).2.2
        rw [totLen_eq, ← joinL_nil, pcs_join]
        simp
        omega
      · rw [pcs_join]; rfl
    · refine join_any (sep := []) hl (txtsA_are (strsA_txts C.cs q2) hr) ?_ fun tk t' => kRet z K as s.heap tk _ (List.prefix_refl _) X ⟨t', rfl⟩
      have : totLen ts + xs.length ≤ 2000 := ble_iff.mp q3
      simp
      omega
  · rw [eqL_eq] at q1
    have hs : sep = [9] := by simpa using q1
    subst hs hk
    obtain ⟨a, items, m, rfl, ha, hl, hr⟩ := X.runsAt q hw
    have b2 := ble_iff.mp q2
    have l3 := runs_len cok d b2 rev
    have l4 := tot_runs cok b2 rev
    refine join_any (sep := [9]) hl (txtsA_are (map_str_txts C.cs _) hr) (by simp; omega) fun tk t' => kRet z K as s.heap tk _ (List.prefix_refl _) X ⟨t', ?_⟩
    rw [show joinL [9] (rkS C.cs (.runs d rev)) = wleadS C.cs d rev from joinL_snoc [9] _ _]
    rfl
/-! splits -/
theorem strsFrom_rvs {as : List Addr} (l : List (List Nat)) : ∀ k : Nat, RVs C as (l.map .str) (strsFrom k (l.map fun t => (⟨t.toArray⟩ : Str))) := by
  induction l with
  | nil => intro k; rfl
  | cons a r ih => intro k; exact ⟨_, _, rfl, ⟨k, rfl⟩, ih (k + 1)⟩
theorem kind_one {l : List Nat} (h : l.all (fun c => decide (c < 256)) = true) : Builtin.Str.strKind ⟨l.toArray⟩ = 1 := by
  unfold Builtin.Str.strKind
  rw [if_pos]
  rw [List.all_eq_true] at h
  rw [Array.all_eq_true']
  intro x hx
  exact h x (by simpa using hx)
theorem kind_ge (x : Str) : 1 ≤ Builtin.Str.strKind x := by
  unfold Builtin.Str.strKind
  split
  · decide
  · split <;> decide
theorem split_any {A : Around} {E : Value → Shared → Prop} {s : Shared} {l sep : List Nat} {t u : Tok} {Q : Value → Shared → Prop} (hs : 1 ≤ sep.length) (hk : sep.all (fun c => decide (c < 256)) = true) (hl : sep.length ≤ l.length)
    (ho : (occL l sep).length ≠ 0) (hb : l.length ≤ 2000) (hn : (splitL l sep).length ≤ 2000)
    (K : ∀ tk vs, RVs C [] ((splitL l sep).map .str) vs → Q (.ref s.heap.objs.size) { s with heap := s.heap.push { cls := .type "list", data := .seq (List.toArray vs) }, toks := tk }) :
    wpAny (model prog C.w) A (call (.builtin "str.split") [.str ⟨l.toArray⟩ t, .str ⟨sep.toArray⟩ u]) Q E s := by
  have e3 : (⟨l.toArray⟩ : Str).length = l.length := by simp [Str.length]
  have e4 : (⟨sep.toArray⟩ : Str).length = sep.length := by simp [Str.length]
  have eo := occ_is l sep hs
  have ep := parts_is l sep.length (occL l sep)
  refine call_meets F.slot_str_split (typeIs_str s _ t) F.entry_str_split (F.args_str_split_2 _ _) (meets_str_split_sep ⟨l.toArray⟩ ⟨sep.toArray⟩ t u ?_ ?_ ?_ ?_ ?_) ?_
  · rw [kind_one hk, e3, e4]
    have := kind_ge ⟨l.toArray⟩
    simp
    omega
  · rw [e4, beq_eq_false_iff_ne]; omega
  · rw [e3, eo]
    cases h : occL l sep with
    | nil => rw [h] at ho; simp at ho
    | cons a r => rfl
  · rw [e3, line_is]; omega
  · rw [e3, e4, eo, ep, line_is, List.length_map]
    exact Nat.le_trans hn (by decide)
  · rw [e3, e4, eo, ep]
    exact K _ _ (strsFrom_rvs _ _)
noncomputable def all256 : List Nat → Bool
  | [] => true
  | a :: r => match Nat.blt a 256 with
    | true => all256 r
    | false => false
theorem all256_eq (l : List Nat) : all256 l = l.all (fun c => decide (c < 256)) := by
  induction l with
  | nil => rfl
  | cons a r ih =>
    rw [all256, Store.blt_eq, List.all_cons, ih]
    by_cases h : a < 256 <;> simp [h]
noncomputable def nonNil {α : Type} : List α → Bool
  | [] => false
  | _ :: _ => true
noncomputable def oSplit (a : List AV) (os : Store) : Option (AV × Store) := onPair a fun a b => onStr b fun sep => alt
  (onStr a fun l => bT (nonNil sep) <| bT (all256 sep) <| bT (Nat.ble sep.length l.length) <| bT (nonNil (occL l sep)) <| bT (Nat.ble l.length 2000) <| bT (Nat.ble (splitL l sep).length 2000) <| os.new (.list ((splitL l sep).map .str)))
  (onSym a fun y => onLead y fun d => bT (eqL sep [9]) <| bT (Nat.ble 1 d) <| bT (Nat.ble d 7) <| os.new (.runs (.runs d false)))
theorem nonNil_len {α : Type} {l : List α} (h : nonNil l = true) : 1 ≤ l.length := by
  cases l with
  | nil => cases h
  | cons a r => exact Nat.succ_pos _
theorem oSplit_ok (cok : CsOk C.cs) : CallOk C (fun vs => call (.builtin "str.split") vs) oSplit := by
  intro A E s hk as st L a v x os' Q hh hu e X hx K
  refine onPair_elim e fun x1 x2 ha e => onStr_elim e fun sep hj e1 => ?_
  subst ha hj
  refine rvs2 hx fun w w2 hw hw2 => rvStr hw2 fun u => ?_
  refine alt_elim e1 (fun e => onStr_elim e fun l hl e => bT_elim e fun q0 e => bT_elim e fun q1 e => bT_elim e fun q2 e => bT_elim e fun q3 e => bT_elim e fun q4 e => bT_elim e fun q5 z => ?_)
    fun e => onSym_elim e fun y hy e => onLead_elim e fun d hd e => bT_elim e fun q0 e => bT_elim e fun q1 e => bT_elim e fun q2 z => ?_
  · subst hl
    refine rvStr hw fun t => split_any (nonNil_len q0) (by rw [← all256_eq]; exact q1) (ble_iff.mp q2) (Nat.ne_of_gt (nonNil_len q3)) (ble_iff.mp q4) (ble_iff.mp q5) fun tk vs hvs => ?_
    have X' := X.pushList z (items := List.toArray vs) (by simpa using hvs.mono (List.nil_prefix))
    exact K _ _ tk _ pre1 X'.1 X'.2
  · subst hy hd
    rw [eqL_eq] at q0
    have hs : sep = [9] := by simpa using q0
    subst hs
    have b1 := ble_iff.mp q1
    have b2 := ble_iff.mp q2
    obtain ⟨c1, c2⟩ := cok.split d b1 b2
    obtain ⟨c3, c4, c5⟩ := cok.small d b2
    refine rvSym hw fun t => split_any (l := leadS C.cs d) (by simp) (by simp) ?_ c1 (by omega) (by rw [c2]; omega) fun tk vs hvs => ?_
    · cases h : leadS C.cs d with
      | nil => rw [h] at c1; exact absurd rfl c1
      | cons a r => simp
    · rw [c2] at hvs
      have X' := X.pushRuns z (items := List.toArray vs) (by simpa using hvs.mono (List.nil_prefix))
      exact K _ _ tk _ pre1 X'.1 X'.2
end
end Mine
end
end
section
set_option maxRecDepth 100000
set_option linter.unusedVariables false
set_option linter.unusedSectionVars false
set_option autoImplicit false
set_option genSizeOf false
set_option genInjectivity false
noncomputable section
namespace Mine
open PySem PySem.W PyProof.Rows
section
variable {C : Cx} {n : Nat} {sc : Sc}
/-! the library's frames: all that stands, told as news -/
noncomputable def allObjs (h : Heap) (L : Addr) : List (Addr × Obj) := (List.range h.objs.size).filterMap fun a => if a = L then none else (h.get? a).map fun o => (a, o)
theorem allObjs_iff {h : Heap} {L : Addr} {p : Addr × Obj} : p ∈ allObjs h L ↔ p.1 ≠ L ∧ h.get? p.1 = some p.2 := by
  unfold allObjs
  rw [List.mem_filterMap]
  constructor
  · rintro ⟨a, _, e⟩
    by_cases q : a = L
    · rw [if_pos q] at e; cases e
    · rw [if_neg q] at e
      cases g : h.get? a with
      | none => rw [g] at e; cases e
      | some o => rw [g] at e; cases e; exact ⟨q, g⟩
  · rintro ⟨q, g⟩
    refine ⟨p.1, List.mem_range.mpr (Heap.lt_size g), ?_⟩
    rw [if_neg q, g]; rfl
theorem empty_get (b : Addr) : ({} : Heap).get? b = none := by
  cases q : ({} : Heap).get? b with
  | none => rfl
  | some o => exact absurd (Heap.lt_size q) (Nat.not_lt_zero _)
theorem frEmpty {h : Heap} {L : Addr} {m : Str → Option Value} (hn : h.Ns L m) : Fr {} L h m := ⟨hn, (fun b o e => by rw [empty_get] at e; cases e), Nat.zero_le _⟩
theorem newsAll (h : Heap) (L : Addr) : News {} L h (allObjs h L) := fun p hp => ⟨(allObjs_iff.mp hp).2, (allObjs_iff.mp hp).1, empty_get _⟩
/-- back from them -/
theorem Rel.ofNews {hk : Heap} {as : List Addr} {st : St} {f : Fm} {h h' : Heap} (X : Rel C hk as st f h) {m : Str → Option Value} (hm : h.Ns f.L m) (hl : LocOk C as st.loc m f.cl h) (F : Fr {} f.L h' m) (N : News {} f.L h' (allObjs h f.L)) : Rel C hk as st f h' := by
  have hs : ∀ b o, b ≠ f.L → h.get? b = some o → h'.get? b = some o := fun b o q e => (N (b, o) (allObjs_iff.mpr ⟨q, e⟩)).1
  have hc : ∀ x ca, f.cl.lookup x = some ca → ∀ o, h.get? ca = some o → h'.get? ca = some o := fun x ca q o e => hs ca o (X.cL x ca q) e
  exact ⟨X.S.extBut (b := f.L) (fun b o q e => hs b o q e) X.notL X.offL, X.offL, X.notL, ⟨m, F.ns, hl.at hc (List.prefix_refl _)⟩, X.cnot, X.cL, fun x ca q => let ⟨v, e⟩ := X.clive x ca q; ⟨v, isCell_at e (hc x ca q)⟩, X.coff, X.apart⟩
/-! sorted: texts -/
noncomputable def ltS : List Nat → List Nat → Bool
  | [], [] => false
  | [], _ :: _ => true
  | _ :: _, [] => false
  | a :: r, b :: t => match Nat.blt a b with
    | true => true
    | false => match Nat.beq a b with
      | true => ltS r t
      | false => false
theorem ltS_eq : ∀ a b, ltS a b = PySem.Spec.ltCps a b
  | [], [] => rfl
  | [], _ :: _ => rfl
  | _ :: _, [] => rfl
  | a :: r, b :: t => by
    unfold ltS PySem.Spec.ltCps
    rw [Store.blt_eq, Tr.beq_eq, ltS_eq r t]
    by_cases h : a < b
    · simp [h]
    · by_cases q : a = b <;> simp [h, q]
theorem ltS_iff (a b : List Nat) : ltS a b = decide (a < b) := by rw [ltS_eq, ltCps_eq]
noncomputable def insS (x : List Nat) : List (List Nat) → List (List Nat)
  | [] => [x]
  | y :: r => match ltS y x with
    | true => y :: insS x r
    | false => x :: y :: r
noncomputable def sortS : List (List Nat) → List (List Nat)
  | [] => []
  | x :: r => insS x (sortS r)
theorem insS_perm (x : List Nat) : ∀ l, (insS x l).Perm (x :: l)
  | [] => .refl _
  | y :: r => by
    unfold insS
    cases ltS y x with
    | true => exact ((insS_perm x r).cons y).trans (.swap x y r)
    | false => exact .refl _
theorem sortS_perm : ∀ l, (sortS l).Perm l
  | [] => .refl _
  | x :: r => (insS_perm x (sortS r)).trans ((sortS_perm r).cons x)
theorem insS_sorted (x : List Nat) : ∀ l : List (List Nat), l.Pairwise (· ≤ ·) → (insS x l).Pairwise (· ≤ ·)
  | [], _ => by simp [insS]
  | y :: r, h => by
    obtain ⟨h1, h2⟩ := List.pairwise_cons.mp h
    unfold insS
    rw [ltS_iff]
    by_cases q : y < x
    · rw [decide_eq_true q]
      refine List.pairwise_cons.mpr ⟨fun z hz => ?_, insS_sorted x r h2⟩
      rcases List.mem_cons.mp ((insS_perm x r).mem_iff.mp hz) with e | e
      · rw [e]; exact Std.le_of_lt q
      · exact h1 z e
    · rw [decide_eq_false q]
      have hxy : x ≤ y := Std.not_lt.mp q
      refine List.pairwise_cons.mpr ⟨fun z hz => ?_, h⟩
      rcases List.mem_cons.mp hz with e | e
      · rw [e]; exact hxy
      · exact Std.le_trans hxy (h1 z e)
theorem sortS_sorted : ∀ l, (sortS l).Pairwise (· ≤ ·)
  | [] => .nil
  | x :: r => insS_sorted x _ (sortS_sorted r)
theorem sorted_unique : ∀ (l r : List (List Nat)), l.Pairwise (· ≤ ·) → r.Pairwise (· ≤ ·) → l.Perm r → l = r
  | [], r, _, _, p => (List.nil_perm.mp p).symm ▸ rfl
  | a :: l, [], _, _, p => by simp at p
  | a :: l, b :: r, h1, h2, p => by
    obtain ⟨a1, a2⟩ := List.pairwise_cons.mp h1
    obtain ⟨b1, b2⟩ := List.pairwise_cons.mp h2
    have hab : a = b := by
      have ha : a ∈ b :: r := p.mem_iff.mp (.head _)
      have hb : b ∈ a :: l := p.mem_iff.mpr (.head _)
      rcases List.mem_cons.mp ha with e | e
      · exact e
      · rcases List.mem_cons.mp hb with e' | e'
        · exact e'.symm
        · exact Std.le_antisymm (a1 b e') (b1 a e)
    subst hab
    rw [sorted_unique l r a2 b2 (List.Perm.cons_inv p)]
theorem risingS_pw : ∀ (p : Str) (l : List Str), risingS p l = true → (p :: l).Pairwise (fun a b => a.cps.toList ≤ b.cps.toList)
  | p, [], _ => by simp
  | p, x :: r, h => by
    have h' : (!PySem.Spec.ltCps x.cps.toList p.cps.toList && risingS x r) = true := h
    obtain ⟨h1, h2⟩ := Bool.and_eq_true_iff.mp h'
    have ih := risingS_pw x r h2
    have hpx : p.cps.toList ≤ x.cps.toList := by
      rw [ltCps_eq] at h1
      simpa using h1
    refine List.pairwise_cons.mpr ⟨fun z hz => ?_, ih⟩
    rcases List.mem_cons.mp hz with e | e
    · rw [e]; exact hpx
    · exact Std.le_trans hpx ((List.pairwise_cons.mp ih).1 z e)
theorem sortedS_pw : ∀ (l : List Str), sortedS l = true → l.Pairwise (fun a b => a.cps.toList ≤ b.cps.toList)
  | [], _ => .nil
  | x :: r, h => risingS_pw x r h
theorem strsA_rvs {as : List Addr} {xs : List AV} : ∀ {ts : List (List Nat)} {vs : List Value}, strsA xs = some ts → RVs C as xs vs → StrsAre vs (ts.map fun t => (⟨t.toArray⟩ : Str)) := by
  induction xs with
  | nil => intro ts vs e h; cases e; exact rvs0 h .nil
  | cons a r ih =>
    intro ts vs e h
    obtain ⟨v, t, e2, h1, h2⟩ := h
    refine strsA_cons e fun s l q q2 z => ?_
    subst q e2 z
    exact rvStr h1 fun tk => .cons _ tk (ih q2 h2)
theorem strs_back {as : List Addr} {ts : List (List Nat)} : ∀ {vs : List Value}, StrsAre vs (ts.map fun t => (⟨t.toArray⟩ : Str)) → RVs C as (ts.map .str) vs := by
  induction ts with
  | nil => intro vs h; cases h; rfl
  | cons t r ih => intro vs h; cases h with | cons y tk h' => exact ⟨_, _, rfl, ⟨tk, rfl⟩, ih h'⟩
theorem sort_strs {A : Around} {E : Value → Shared → Prop} {s : Shared} {a : Addr} {items : Array Value} {m : Nat} {ts : List (List Nat)} {Q : Value → Shared → Prop} (hl : IsL s.heap a items m)
    (hS : StrsAre items.toList (ts.map fun t => (⟨t.toArray⟩ : Str))) (h64 : ts.length < 64)
    (K : ∀ (h' : Heap) (out : List Value) (e : Nat), (∀ b o, s.heap.get? b = some o → h'.get? b = some o) → IsL h' (s.heap.objs.size + 1) out.toArray e → StrsAre out ((sortS ts).map fun t => (⟨t.toArray⟩ : Str)) → Q (.ref (s.heap.objs.size + 1)) { s with heap := h' }) :
    wpAny (model prog C.w) A (call (.builtin "sorted") [.ref a]) Q E s := by
  have hlen : items.toList.length = ts.length := by
    have h1 := hS.strs
    have := congrArg List.length h1
    simpa using this
  refine sorted_strs (vs := items.toList) (by simpa using hl.isList) hS (by omega) fun out ss' h1 h2 h3 => ?_
  obtain ⟨e, he⟩ := sortedAll_at s.heap items.toList out
  have key : ss' = (sortS ts).map fun t => (⟨t.toArray⟩ : Str) := by
    have p1 : (ss'.map fun x => x.cps.toList).Perm (sortS ts) := by
      have := h2.map fun x => x.cps.toList
      rw [List.map_map] at this
      have e2 : (ts.map ((fun x : Str => x.cps.toList) ∘ fun t => (⟨t.toArray⟩ : Str))) = ts := by
        simp [Function.comp_def]
      rw [e2] at this
      exact this.trans (sortS_perm ts).symm
    have p2 := sorted_unique _ _ (List.pairwise_map.mpr (sortedS_pw ss' h3)) (sortS_sorted ts) p1
    rw [← p2, List.map_map]
    conv => lhs; rw [← List.map_id ss']
    refine List.map_congr_left fun x _ => ?_
    simp [Function.comp_def]
  refine K _ out.toList e (fun b o => sortedAll_old) ?_ (key ▸ h1)
  simpa [IsL, seqObj] using he
end
end Mine
end
end
section
set_option maxRecDepth 100000
set_option linter.unusedVariables false
set_option linter.unusedSectionVars false
set_option autoImplicit false
set_option genSizeOf false
set_option genInjectivity false
set_option maxHeartbeats 0
noncomputable section
namespace Mine
open PySem PySem.W PyProof.Rows
section
variable {C : Cx} {n : Nat} {sc : Sc}
/-! sorted: pairs of a number and a text -/
noncomputable def pairA (a : AV) (os : Store) : Option (Int × List Nat) := onRef a fun i => onTup (os.get i) fun l => onPair l fun x s => onInt x fun x => onStr s fun s => some (x, s)
noncomputable def pairsA (os : Store) : List AV → Option (List (Int × List Nat))
  | [] => some []
  | a :: r => o1 (pairA a os) fun p => o1 (pairsA os r) fun l => some (p :: l)
noncomputable def ltP (p q : Int × List Nat) : Bool := match eqI p.1 q.1 with
  | true => ltS p.2 q.2
  | false => Z.ltB p.1 q.1
noncomputable def runK {α : Type} (n : Nat) (lt : Nat → Nat → Bool) : KasT α → Option α
  | .ret a => some a
  | .ask i j k => bT (Nat.blt i n) <| bT (Nat.blt j n) <| runK n lt (k (lt i j))
theorem runK_ok {α : Type} {n : Nat} {lt : Nat → Nat → Bool} {cmp : Nat → Nat → (Bool → Shared → Prop) → Shared → Prop} {Inv : Shared → Prop}
    (hc : ∀ i j C s, i < n → j < n → Inv s → (∀ s', Inv s' → C (lt i j) s') → cmp i j C s) {a : α} {Q : α → Shared → Prop} (hq : ∀ s', Inv s' → Q a s') (t : KasT α) : ∀ {s : Shared}, runK n lt t = some a → Inv s → t.kasWp cmp Q s := by
  induction t with
  | ret b =>
    intro s e hi
    cases e
    exact hq s hi
  | ask i j k ih =>
    intro s e hi
    refine bT_elim e fun q1 e => bT_elim e fun q2 z => ?_
    rw [Store.blt_eq] at q1 q2
    exact hc i j _ s (of_decide_eq_true q1) (of_decide_eq_true q2) hi fun s' hi' => ih (lt i j) z hi'
theorem pair_at {hk : Heap} {as : List Addr} {st : St} {f : Fm} {h : Heap} (X : Rel C hk as st f h) {a : AV} {p : Int × List Nat} {v : Value} (e : pairA a st.os = some p) (hv : RV C as a v) :
    ∃ x t u, v = .ref x ∧ h.get? x = some { cls := .type "tuple", dict := none, data := .seq #[.int p.1 t, .str ⟨p.2.toArray⟩ u] 0, slots := #[] } := by
  refine onRef_elim e fun i hi e => onTup_elim e fun l q e => onPair_elim e fun y s hl2 e => onInt_elim e fun xi hx e => onStr_elim e fun xs hs z => ?_
  cases z
  subst hi hl2 hx hs
  obtain ⟨a, items, rfl, ha, hl, hr⟩ := X.tupAt q hv
  obtain ⟨w, w2, rfl, ⟨t, rfl⟩, ⟨u, rfl⟩⟩ := rvs2L hr
  exact ⟨a, t, u, rfl, hl⟩
theorem lt_pair {A : Around} {E : Value → Shared → Prop} {s : Shared} {x y : Addr} {p q : Int × List Nat} {t u t' u' : Tok} {Q : Bool → Shared → Prop}
    (hx : s.heap.get? x = some { cls := .type "tuple", dict := none, data := .seq #[.int p.1 t, .str ⟨p.2.toArray⟩ u] 0, slots := #[] })
    (hy : s.heap.get? y = some { cls := .type "tuple", dict := none, data := .seq #[.int q.1 t', .str ⟨q.2.toArray⟩ u'] 0, slots := #[] })
    (h : Q (ltP p q) s) : wpAny (model prog C.w) A (keyLt' (tuples' true) (.ref x) (.ref y)) Q E s := by
  refine kat_lt hx rfl hy rfl (kat_cons ?_)
  refine SeqAt.EqAt.int_int (A := A) (s := s) p.1 t q.1 t' prog C.w _ _ (kat_go (fun h1 => kat_yes (kat_cons ?_)) fun h1 => kat_no ?_)
  · refine SeqAt.EqAt.str_str (A := A) (s := s) ⟨p.2.toArray⟩ u ⟨q.2.toArray⟩ u' prog C.w _ _ (kat_go (fun h2 => kat_yes (kat_nil ?_)) fun h2 => kat_no (kat_one _ _ ?_))
    · have e1 : p.1 = q.1 := by simpa using h1
      have e2 : p.2 = q.2 := by simpa using h2
      have : ltP p q = false := by
        unfold ltP
        rw [eqI_eq, e1, e2]
        simp [ltS_iff]
      rw [this] at h
      exact h
    · have e1 : p.1 = q.1 := by simpa using h1
      refine PySem.P.lt_str ?_
      have : ltP p q = decide (p.2 < q.2) := by
        unfold ltP
        rw [eqI_eq, e1]
        simp [ltS_iff]
      rw [this] at h
      exact h
  · have e1 : ¬ p.1 = q.1 := by simpa using h1
    have : ltP p q = decide (p.1 < q.1) := by
      unfold ltP
      rw [eqI_eq]
      rw [show (p.1 == q.1) = false by simpa using e1]
      rw [Bool.eq_iff_iff, Z.ltB_iff]
      simp
    rw [this] at h
    exact (keyLt'_oneType _ _ ▸ kat_lt_int h : wpAny (model prog C.w) A (oneLt' true (.int p.1 t) (.int q.1 t')) Q _ s)
theorem pairsA_get (os : Store) {xs : List AV} : ∀ {ps : List (Int × List Nat)}, pairsA os xs = some ps → ps.length = xs.length ∧ ∀ (j : Nat) a, xs[j]? = some a → ∃ p, ps[j]? = some p ∧ pairA a os = some p := by
  induction xs with
  | nil => intro ps e; cases e; exact ⟨rfl, fun j a h => by simp at h⟩
  | cons x r ih =>
    intro ps e
    refine o1_elim e fun p q e => o1_elim e fun l q2 z => ?_
    cases z
    obtain ⟨h1, h2⟩ := ih q2
    refine ⟨by simp [h1], fun j a h => ?_⟩
    cases j with
    | zero => simp at h; exact ⟨p, rfl, h ▸ q⟩
    | succ j => simp at h; exact h2 j a h
noncomputable def getP : List (Int × List Nat) → Nat → Int × List Nat
  | [], _ => (0, [])
  | p :: r, i => Nat.rec (motive := fun _ => Int × List Nat) p (fun j _ => getP r j) i
theorem getP_eq : ∀ (l : List (Int × List Nat)) (i : Nat) {p}, l[i]? = some p → getP l i = p
  | [], _, _, h => by simp at h
  | q :: r, 0, p, h => by simp at h; exact h
  | q :: r, i + 1, p, h => getP_eq r i (by simpa using h)
noncomputable def permA (xs : List AV) : List Nat → Option (List AV)
  | [] => some []
  | i :: r => o1 (nth xs i) fun a => o1 (permA xs r) fun l => some (a :: l)
theorem permA_rvs {as : List Addr} {xs : List AV} {vs : List Value} (h : RVs C as xs vs) {p : List Nat} : ∀ {l : List AV}, permA xs p = some l → RVs C as l (p.map fun i => vs.getD i .none) := by
  induction p with
  | nil => intro l e; cases e; rfl
  | cons i r ih =>
    intro l e
    refine o1_elim e fun a q e => o1_elim e fun l' q2 z => ?_
    cases z
    rw [nth_eq] at q
    obtain ⟨v, hv, hr⟩ := h.get q
    refine ⟨v, _, ?_, hr, ih q2⟩
    rw [List.map_cons, List.getD_eq_getElem?_getD, hv]
    rfl
/-- sorted, of fewer than two -/
theorem list_sort_short {A : Around} {E : Value → Shared → Prop} {s : Shared} {a : Addr} {vs : List Value} {n : Nat} {P : PySem.Fin → Shared → Prop} (ho : s.heap.get? a = some (seqObj "list" vs.toArray n)) (h2 : vs.length < 2)
    (h : P (.done (.ret .none)) { s with heap := sortedHeap s.heap a vs ((vs.toArray.zip vs.toArray).map (·.2)) }) : wpAny (model prog C.w) A (Builtin.«list.sort» ⟨[.ref a], []⟩) P E s := by
  rw [list_sort_plain]
  have ha : a < s.heap.objs.size := Heap.lt_size ho
  refine wpAny_bind (listItems_at ho rfl ?_)
  refine wpAny_bind (listUpdate_at ho rfl ?_)
  obtain ⟨e1, ho1⟩ : ∃ e1, (s.heap.update a (Obj.mapSeq fun _ => #[])).get? a = some (seqObj "list" #[] e1) := ⟨_, get?_update_seq ho (fun _ => #[])⟩
  refine wpAny_bind (seqEpoch_at ho1 rfl ?_)
  refine wpAny_bind (wpAny_newTuple ?_ (by simp [line_is]; omega))
  refine wpAny_bind (wpAny_newList ?_)
  refine wpAny_holding ?_
  have ho6 : (((s.heap.update a (Obj.mapSeq fun _ => #[])).push (seqObj "tuple" vs.toArray 0)).push (seqObj "list" #[] 0)).get? a = some (seqObj "list" #[] e1) := by
    rw [Heap.get?_push_ne _ _ _ (by rw [size_push', Heap.size_update]; exact Nat.ne_of_lt (Nat.lt_succ_of_lt ha)), Heap.get?_push_ne _ _ _ (by rw [Heap.size_update]; exact Nat.ne_of_lt ha)]
    exact ho1
  show wpAny (model prog C.w) A _ P E { s with heap := ((s.heap.update a (Obj.mapSeq fun _ => #[])).push (seqObj "tuple" vs.toArray 0)).push (seqObj "list" #[] 0) }
  dsimp only
  have hv2 : vs.toArray.size < 2 := by simpa using h2
  rw [if_pos hv2, if_pos hv2]
  refine wpAny_bind (wpAny_pure ?_)
  rw [StateT.run_pure]
  refine wpAny_bind (wpAny_pure ?_)
  dsimp only
  refine wpAny_bind (seqEpoch_at ho6 rfl ?_)
  refine wpAny_bind (listUpdate_at ho6 rfl ?_ (hsz2 := by rw [Array.size_map]; show (pairsOf vs).size ≤ _; rw [pairsOf_size, sizeLine_eq]; omega))
  simp only [bne_self_eq_false, Bool.false_eq_true, if_false]
  exact wpAny_pure h
theorem zip_short (vs : List Value) : (vs.toArray.zip vs.toArray).map (·.2) = vs.toArray := by
  rw [← Array.toList_inj]
  simp only [Array.toList_map, Array.toList_zip]
  exact List.map_snd_zip (Nat.le_refl _)
theorem sort_short {A : Around} {E : Value → Shared → Prop} {s : Shared} {a : Addr} {vs : List Value} {Q : Value → Shared → Prop} (hl : s.heap.IsList a vs.toArray) (h2 : vs.length < 2)
    (K : ∀ (h' : Heap) (e : Nat), (∀ b o, s.heap.get? b = some o → h'.get? b = some o) → IsL h' (s.heap.objs.size + 1) vs.toArray e → Q (.ref (s.heap.objs.size + 1)) { s with heap := h' }) :
    wpAny (model prog C.w) A (call (.builtin "sorted") [.ref a]) Q E s := by
  refine Calls.call_function_entry kind_sorted plain_sorted entry_sorted (args_sorted1 _) ?_
  unfold Builtin.«sorted»
  refine wpAny_bind (m := checkCount "sorted" 1 1 _) (wpAny_pure ?_)
  refine wpAny_bind (collect_list hl ?_ (by rw [line_is]; omega))
  refine wpAny_bind (wpAny_newList ?_ (by rw [line_is]; omega))
  have hsz : ((s.heap.push (seqObj "list" #[] 0)).update s.heap.objs.size (Obj.mapSeq (· ++ vs.toArray))).objs.size = s.heap.objs.size + 1 := by
    rw [Heap.size_update, size_push']
  have hoL : (((s.heap.push (seqObj "list" #[] 0)).update s.heap.objs.size (Obj.mapSeq (· ++ vs.toArray))).push (seqObj "list" vs.toArray 0)).get? (s.heap.objs.size + 1) = some (seqObj "list" vs.toArray 0) := by
    rw [← hsz]; exact Heap.get?_push_size _ rfl
  show wpAny _ _ _ _ _ { s with heap := ((s.heap.push (seqObj "list" #[] 0)).update s.heap.objs.size (Obj.mapSeq (· ++ vs.toArray))).push (seqObj "list" vs.toArray 0) }
  rw [hsz]
  have hz := zip_short vs
  refine wpAny_bind (wpAny_holding (wpAny_call_entry slot_list_sort ⟨_, hoL, rfl⟩ entry_list_sort (list_sort_short (s := { s with heap := ((s.heap.push (seqObj "list" #[] 0)).update s.heap.objs.size (Obj.mapSeq (· ++ vs.toArray))).push (seqObj "list" vs.toArray 0) }) hoL h2 ⟨_, rfl, ?_⟩) (args_list_sort _)))
  rw [hz]
  obtain ⟨e, he⟩ := sortedAll_at s.heap vs vs.toArray
  exact wpAny_pure ⟨_, rfl, K (sortedAll s.heap vs vs.toArray) e (fun b o => sortedAll_old) he⟩
/-- the first of a pair -/
noncomputable def fstOf (h : Heap) (v : Value) : Value := match v with
  | .ref x => match h.get? x with
    | some o => match o.data with
      | .seq ys _ => ys.getD 0 .none
      | _ => .none
    | none => .none
  | _ => .none
theorem fst_at {h : Heap} {x : Addr} {i : Int} {t u : Tok} {s : Str} (hx : h.get? x = some { cls := .type "tuple", dict := none, data := .seq #[.int i t, .str s u] 0, slots := #[] }) : fstOf h (.ref x) = .int i t := by
  unfold fstOf
  dsimp only
  rw [hx]
  rfl
theorem pairs_tups {hk : Heap} {as : List Addr} {st : St} {f : Fm} {h : Heap} (X : Rel C hk as st f h) {l : List AV} : ∀ {vs : List Value} {qs : List (Int × List Nat)}, pairsA st.os l = some qs → RVs C as l vs → KatTups h vs (vs.map (fstOf h)) ∧ ∀ v ∈ vs.map (fstOf h), ∃ i t, v = Value.int i t := by
  induction l with
  | nil => intro vs qs _ h; rw [show vs = [] from h]; exact ⟨KatTups.nil, fun v hv => by cases hv⟩
  | cons b l ih =>
    rintro vs qs hq ⟨v, r, rfl, hb, hr⟩
    refine o1_elim hq fun pp qp e => o1_elim e fun l' ql z => ?_
    obtain ⟨x, t, u, rfl, hx⟩ := pair_at X qp hb
    obtain ⟨i1, i2⟩ := ih ql hr
    rw [List.map_cons, fst_at hx]
    refine ⟨KatTups.cons hx rfl rfl rfl i1, fun w hw => ?_⟩
    rcases List.mem_cons.mp hw with e | e
    · exact ⟨_, _, e⟩
    · exact i2 w e
theorem sort_pairs {A : Around} {E : Value → Shared → Prop} {s : Shared} {hk : Heap} {as : List Addr} {st : St} {f : Fm} (X : Rel C hk as st f s.heap) {a : Addr} {items : Array Value} {m : Nat} {xs out : List AV} {ps : List (Int × List Nat)} {p : Array Nat} {Q : Value → Shared → Prop}
    (hl : IsL s.heap a items m) (hr : RVs C as xs items.toList) (hp : pairsA st.os xs = some ps) (h2 : 2 ≤ xs.length) (h64 : xs.length < 64) (he : runK xs.length (fun i j => ltP (getP ps i) (getP ps j)) (kas_sort xs.length) = some p) (ho : permA xs p.toList = some out)
    (K : ∀ (h' : Heap) (D : Addr) (its : Array Value) (e tk : Nat), Rel C hk as st f h' → Apart hk h' as f D → IsL h' D its e → RVs C as out its.toList → Q (.ref D) { s with heap := h', toks := tk }) :
    wpAny (model prog C.w) A (call (.builtin "sorted") [.ref a]) Q E s := by
  obtain ⟨mm, hm, hlo⟩ := X.ns
  have hlen : items.toList.length = xs.length := hr.length
  obtain ⟨hps, hpg⟩ := pairsA_get st.os hp
  refine kat_sorted (vs := items.toList) (frEmpty hm) (newsAll s.heap f.L) (by simpa using hl.isList) (by omega) (by omega) fun D e1 h1 F1 N1 hD => ?_
  have N1' : News {} f.L h1 (allObjs s.heap f.L) := fun q hq => N1 q (.tail _ hq)
  have X1 := X.ofNews hm hlo F1 N1'
  have fD : s.heap.get? D = none := by
    cases q : s.heap.get? D with
    | none => rfl
    | some o => exact absurd (hD (D, o) (allObjs_iff.mpr ⟨(N1 _ (.head _)).2.1, q⟩)) (Nat.lt_irrefl _)
  have tups := pairs_tups X1 hp hr
  refine kat_kind (s := { s with heap := h1 }) (T := .type "int") tups.1 (by rw [List.length_map]; omega) (fun v hv => ?_) rfl ?_
  · obtain ⟨i, t, rfl⟩ := tups.2 v hv
    exact Looks.now
  rw [show (Value.type "int" != Value.type "tuple") = true by decide]
  rw [hlen]
  refine runK_ok (Inv := fun s' => s' = { s with heap := h1 }) (fun i j C' s' hi hj hs hC => ?_) (fun s' hs => ?_) (kas_sort xs.length) he rfl
  · subst hs
    have gi : ∀ k, k < xs.length → ∃ b pp, xs[k]? = some b ∧ pairA b st.os = some pp ∧ getP ps k = pp ∧ ∃ v, items.toList[k]? = some v ∧ RV C as b v := fun k hk => by
      have e1 : xs[k]? = some xs[k] := List.getElem?_eq_getElem hk
      obtain ⟨pp, h1, h2⟩ := hpg k _ e1
      obtain ⟨v, hv, hrv⟩ := hr.get e1
      exact ⟨_, pp, e1, h2, getP_eq ps k h1, v, hv, hrv⟩
    obtain ⟨b1, p1, _, hp1, hg1, v1, hv1, hr1⟩ := gi i hi
    obtain ⟨b2, p2, _, hp2, hg2, v2, hv2, hr2⟩ := gi j hj
    obtain ⟨x1, t1, u1, rfl, hx1⟩ := pair_at X1 hp1 hr1
    obtain ⟨x2, t2, u2, rfl, hx2⟩ := pair_at X1 hp2 hr2
    unfold kas_ask
    rw [List.getD_eq_getElem?_getD, hv1, List.getD_eq_getElem?_getD, hv2]
    refine lt_pair (s := { s with heap := h1 }) hx1 hx2 ?_
    have := hC { s with heap := h1 } rfl
    rw [hg1, hg2] at this
    exact this
  · subst hs
    refine KasFin.intro F1 N1 (UpdF.head fun q hq => Nat.ne_of_lt (hD q hq)) fun h2 c F2 N2 => ?_
    have N2' : News {} f.L h2 (allObjs s.heap f.L) := fun q hq => N2 q (.tail _ hq)
    have X2 := X.ofNews hm hlo F2 N2'
    have hDl := (N2 _ (.head _)).1
    exact K h2 D _ c s.toks X2 (Apart.fresh X fD hDl) hDl (by
      have := permA_rvs hr ho
      simpa using this)
noncomputable def oSorted (a : List AV) (os : Store) : Option (AV × Store) := on1 a fun a => onRef a fun i => onList (os.get i) fun xs => bIf (Nat.blt xs.length 2) (os.new (.list xs)) <| bT (Nat.blt xs.length 64) <|
  oC (strsA xs) (fun ts => os.new (.list ((sortS ts).map .str))) <| o1 (pairsA os xs) fun ps => o1 (runK xs.length (fun i j => ltP (getP ps i) (getP ps j)) (kas_sort xs.length)) fun p => o1 (permA xs p.toList) fun out => os.new (.list out)
theorem strsA_len {xs : List AV} : ∀ {ts : List (List Nat)}, strsA xs = some ts → ts.length = xs.length := by
  induction xs with
  | nil => intro ts e; cases e; rfl
  | cons a r ih => intro ts e; exact strsA_cons e fun s l q q2 z => by rw [z, List.length_cons, List.length_cons, ih q2]
theorem blt_t {a b : Nat} (h : Nat.blt a b = true) : a < b := by rw [Store.blt_eq] at h; exact of_decide_eq_true h
theorem blt_f {a b : Nat} (h : Nat.blt a b = false) : b ≤ a := by rw [Store.blt_eq] at h; exact Nat.not_lt.mp (of_decide_eq_false h)
theorem oSorted_ok : CallOk C (fun vs => call (.builtin "sorted") vs) oSorted := by
  intro A E s hk as st L a v x os' Q hh hu e X hx K
  refine on1_elim e fun y ha e => onRef_elim e fun i hi e => onList_elim e fun xs q e1 => ?_
  subst ha hi
  refine rvs1 hx fun w hw => X.listE q hw fun a items m ha hl hr => ?_
  have hlen : items.toList.length = xs.length := hr.length
  refine bIf_elim e1 (fun q2 z => ?_) fun q2 e => bT_elim e fun q3 e => oC_elim e (fun ts qt z => ?_) fun _ e => o1_elim e fun ps qp e => o1_elim e fun p qr e => o1_elim e fun out qo z => ?_
  · refine sort_short (vs := items.toList) (by simpa using hl.isList) (hlen ▸ blt_t q2) fun h' e' hk' hl' => ?_
    have X' := (X.ext hk').adopt (a := s.heap.objs.size + 1) (Apart.fresh X (get_out (Nat.le_succ _)) hl') z ⟨_, e', hl', by simpa using hr.mono pre1⟩ rfl
    exact K _ h' s.toks _ pre1 X'.1 X'.2
  · refine sort_strs hl (strsA_rvs qt hr) (by rw [strsA_len qt]; exact blt_t q3) fun h' out e' hk' hl' hS => ?_
    have X' := (X.ext hk').adopt (a := s.heap.objs.size + 1) (Apart.fresh X (get_out (Nat.le_succ _)) hl') z ⟨_, e', hl', by simpa using (strs_back (C := C) (as := as ++ [s.heap.objs.size + 1]) hS)⟩ rfl
    exact K _ h' s.toks _ pre1 X'.1 X'.2
  · refine sort_pairs X hl hr qp (blt_f q2) (blt_t q3) qr qo fun h' D its e' tk X' hA hl' hro => ?_
    have X2 := X'.adopt hA z ⟨its, e', hl', hro.mono pre1⟩ rfl
    exact K _ h' tk _ pre1 X2.1 X2.2
end
end Mine
end
end
section
set_option maxRecDepth 100000
set_option linter.unusedVariables false
set_option linter.unusedSectionVars false
set_option autoImplicit false
set_option genSizeOf false
set_option genInjectivity false
set_option maxHeartbeats 0
noncomputable section
namespace Mine
open PySem PySem.W PyProof.Rows
namespace FBj
theorem slot_bytes_join : Slot "bytes" "join" "bytes.join" :=
  .of (owner := "bytes") (n := "join") (by rw [typeLookup_type, builtinLookup_eq_fast]; kernel_rfl) (by decide +kernel) (by decide +kernel) (by decide +kernel)
    (by first | exact .inl (by decide +kernel) | exact .inr (by decide +kernel)) (by rw [isSubtype_type]; kernel_rfl)
theorem type_bytes_join : typeOf (.builtin "bytes.join") = pure (.type "method_descriptor") := by show builtinType _ = _; rw [builtinType_eq_fast]; kernel_rfl
theorem entry_bytes_join : entryFor table "bytes.join" = some Builtin.«bytes.join» := entryFor_of_tree (by kernel_rfl)
theorem args_bytes_join_2 (a b : Value) : argsOk "bytes.join" ⟨[a, b], []⟩ := by
  unfold argsOk; rw [signature?_of (id := "bytes.join") (n := ['n', 'i', 'o', 'j']) (o := ['s', 'e', 't', 'y', 'b']) (by kernel_rfl) FB.owner_bytes]; kernel_rfl
end FBj
section
variable {C : Cx} {n : Nat} {sc : Sc}
theorem take_eq {id : String} {b : Array UInt8} {t : Tok} : Builtin.Bytes.takeBufferQuiet? id (.bytes b t) 0 = pure (some (b, none)) := by
  have h : Builtin.Bytes.takeBuffer? id (.bytes b t) 0 = pure (some (b, none)) := by
    unfold Builtin.Bytes.takeBuffer?
    rw [KBy.special_eq KBy.look_buffer, KBy.own_buffer]
    simp only [pure_bind]
    rw [show ((0 : Int) == Builtin.Bytes.fullReadOnly) = false by decide, KBy.buffer_eq]
    rfl
  unfold Builtin.Bytes.takeBufferQuiet?
  rw [h]
  rfl
theorem w_neg {α : Type} {M : Model} {A : Around} {c : Prop} [Decidable c] {x y : Sem α} {Q : α → Shared → Prop} {E : Value → Shared → Prop} {s : Shared} (hc : ¬ c) (k : wpAny M A y Q E s) : wpAny M A (if c then x else y) Q E s := by rw [if_neg hc]; exact k
theorem w_pos {α : Type} {M : Model} {A : Around} {c : Prop} [Decidable c] {x y : Sem α} {Q : α → Shared → Prop} {E : Value → Shared → Prop} {s : Shared} (hc : c) (k : wpAny M A x Q E s) : wpAny M A (if c then x else y) Q E s := by rw [if_pos hc]; exact k
theorem jsz (o p s n : Nat) : o + s + p + s * n = o + s * (n + 1) + p := by rw [Nat.mul_succ]; omega
theorem joined_go (sep : Array UInt8) (l : List (Array UInt8)) : ∀ (k : Nat) (out : Array UInt8), ((l.zipIdx (k + 1)).foldl (fun out (p, i) => (if i > 0 then out ++ sep else out) ++ p) out).size = l.foldl (fun x y => x + y.size) (out.size + sep.size * l.length) := by
  induction l with
  | nil => intro k out; rfl
  | cons a r ih =>
    intro k out
    rw [List.zipIdx_cons, List.foldl_cons]
    refine (ih (k + 1) _).trans ?_
    refine congrArg (r.foldl _) ?_
    refine Eq.trans ?_ (jsz out.size a.size sep.size r.length)
    rw [Array.size_append, if_pos (Nat.succ_pos k), Array.size_append]
theorem joined_size (sep : Array UInt8) (l : List (Array UInt8)) : (Builtin.Bytes.joined sep l).size ≤ l.foldl (fun x y => x + y.size) (sep.size * (l.length - 1)) := by
  unfold Builtin.Bytes.joined
  cases l with
  | nil => exact Nat.zero_le _
  | cons a r =>
    refine Nat.le_of_eq ((joined_go sep r 0 _).trans (congrArg (r.foldl _) ?_))
    rw [Array.size_append, if_neg (Nat.lt_irrefl 0), Nat.add_comm]
    exact congrArg (_ + ·) (Nat.zero_add _)
noncomputable abbrev JP := Array (Array UInt8) × List (Value × Option Value)
section
variable {M : Model} {A : Around} {E : Value → Shared → Prop} {s : Shared}
theorem jm1 {α : Type} {Q : α → Shared → Prop} {items : Array Value} {f : Value → Sem α} {g : Array Value → Sem α} (h1 : ∀ x, items = #[x] → wpAny M A (f x) Q E s) (h2 : wpAny M A (g items) Q E s) :
    wpAny M A (Builtin.Bytes.joinM.match_1 (fun _ => Sem α) items f g) Q E s := by
  obtain ⟨l⟩ := items
  rcases l with _ | ⟨a, _ | ⟨b, r⟩⟩
  · exact h2
  · exact h1 _ rfl
  · exact h2
theorem joinLoop {l : List (Array UInt8 × Tok)} {f : Nat → JP → Sem (ForInStep JP)}
    (hf : ∀ (j : Nat) (hj : j < l.length) (pt : Array (Array UInt8)) (tk : List (Value × Option Value)) (R' : ForInStep JP → Shared → Prop), tk.any (·.1.onHeap) = false → R' (.yield (pt.push l[j].1, tk ++ [(.bytes l[j].1 l[j].2, none)])) s → wpAny M A (f j (pt, tk)) R' E s) {k : Nat} :
    ∀ {i : Nat} {parts : Array (Array UInt8)} {taken : List (Value × Option Value)} {R : JP → Shared → Prop}, i + k = l.length → taken.any (·.1.onHeap) = false → (∀ x ∈ taken, x.2 = none) →
      (∀ pt tk, pt.toList = parts.toList ++ (l.drop i).map (·.1) → (∀ x ∈ tk, x.2 = none) → R (pt, tk) s) → wpAny M A (forIn (List.range' i k) (parts, taken) f) R E s := by
  induction k with
  | zero =>
    intro i parts taken R hk h1 h2 hR
    refine wpAny_pure (hR _ _ ?_ h2)
    rw [List.drop_eq_nil_of_le (show l.length ≤ i from Nat.le_of_eq hk.symm)]
    exact (List.append_nil _).symm
  | succ k ih =>
    intro i parts taken R hk h1 h2 hR
    have hi : i < l.length := hk ▸ Nat.lt_add_of_pos_right (Nat.succ_pos k)
    rw [List.range'_succ, List.forIn_cons]
    refine wpAny_bind (hf i hi parts taken _ h1 ?_)
    refine ih ((Nat.add_right_comm i 1 k).trans hk) ((List.any_append).trans (by rw [h1]; rfl)) (fun x hx => ?_) fun pt tk e htk => hR pt tk ?_ htk
    · rcases List.mem_append.mp hx with q | q
      · exact h2 x q
      · exact congrArg Prod.snd (List.mem_singleton.mp q)
    · rw [e, List.drop_eq_getElem_cons hi, Array.toList_push, List.append_assoc]
      rfl
theorem joinLetGo_ok {tk : List (Value × Option Value)} {keep : List Value} {Q : Unit → Shared → Prop} : (∀ x ∈ tk, x.2 = none) → Q () s → wpAny M A (Builtin.Bytes.joinLetGo tk keep) Q E s := by
  induction tk with
  | nil => intro _ hq; exact wpAny_pure hq
  | cons x r ih =>
    obtain ⟨v, u⟩ := x
    intro hx hq
    obtain rfl : u = none := hx _ (.head _)
    exact wpAny_bind (wpAny_letGo (ih (fun y hy => hx y (.tail _ hy)) hq))
end
theorem not_long {sep : Array UInt8} {l : List (Array UInt8)} (hb : l.foldl (fun x y => x + y.size) (sep.size * (l.length - 1)) ≤ 10000) : ¬ Builtin.Bytes.tooLong (l.toArray.foldl (fun x y => x + y.size) (sep.size * (l.toArray.size - 1))) = true := by
  rw [KBy.tooLong_not]
  · exact Bool.false_ne_true
  · refine Nat.le_trans (Nat.le_of_eq ?_) (Nat.le_trans hb (by decide))
    simp
theorem items_at {items : Array Value} {l : List (Array UInt8 × Tok)} (h : items.toList = l.map fun p => .bytes p.1 p.2) (i : Nat) (hi : i < l.length) : items.getD i .none = .bytes l[i].1 l[i].2 := by
  have : items.toList[i]? = some (.bytes l[i].1 l[i].2) := by rw [h]; simp [hi]
  rw [Array.getElem?_toList] at this
  simp [Array.getD_eq_getD_getElem?, this]
theorem one_of {items : Array Value} {l : List (Array UInt8 × Tok)} {x : Value} (h : items.toList = l.map fun p => .bytes p.1 p.2) (e : items = #[x]) : ∃ p, l = [p] ∧ x = .bytes p.1 p.2 := by
  subst e
  rcases l with _ | ⟨p, _ | ⟨q, r⟩⟩
  · cases h
  · exact ⟨p, rfl, (List.cons.inj h).1⟩
  · cases h
theorem joined_one (sep a : Array UInt8) : Builtin.Bytes.joined sep [a] = a := by simp [Builtin.Bytes.joined]
theorem bjoin {A : Around} {E : Value → Shared → Prop} {s : Shared} {a : Addr} {items : Array Value} {m : Nat} {sep : Array UInt8} {t : Tok} {l : List (Array UInt8 × Tok)} {Q : Value → Shared → Prop}
    (hl : IsL s.heap a items m) (h : items.toList = l.map fun p => .bytes p.1 p.2) (hb : (l.map (·.1)).foldl (fun x y => x + y.size) (sep.size * (l.length - 1)) ≤ 10000)
    (K : ∀ tk t', Q (.bytes (Builtin.Bytes.joined sep (l.map (·.1))) t') { s with toks := tk }) : wpAny (model prog C.w) A (call (.builtin "bytes.join") [.bytes sep t, .ref a]) Q E s := by
  refine wpAny_call_entry FBj.slot_bytes_join (typeIs_bytes s sep t) FBj.entry_bytes_join ?_ (FBj.args_bytes_join_2 _ _)
  unfold Builtin.«bytes.join» Builtin.Bytes.joinM
  refine wpAny_bind (wpAny_of_eq (a := (.bytes sep t, .ref a)) rfl ?_)
  dsimp only
  refine wpAny_bind ?_
  unfold Builtin.Bytes.joinItems
  refine wpAny_bind (wpAny_typeOf hl.isList.typeIs ?_)
  refine w_pos (by decide) (wpAny_pure ?_)
  refine wpAny_bind (wpAny_seqItems hl rfl ?_)
  have hsz : items.size = l.length := by rw [← Array.length_toList, h, List.length_map]
  rw [← List.length_map (·.1)] at hb
  refine w_pos (by decide) (jm1 (fun x hx => ?_) ?_)
  · obtain ⟨p, rfl, rfl⟩ := one_of h hx
    refine wpAny_bind (wpAny_typeOf (typeIs_bytes s _ _) ?_)
    refine w_pos (by decide) (wpAny_bind (wpAny_rule (wpAny_pure ⟨_, rfl, ?_⟩)))
    exact joined_one sep p.1 ▸ K s.toks p.2
  · rw [Std.Legacy.Range.forIn_eq_forIn_range']
    refine wpAny_bind (joinLoop (l := l) (fun j hj pt tk R' ht hR' => ?_) (by rw [← hsz]; simp [Std.Legacy.Range.size]) rfl (fun x hx => (nomatch hx)) fun pt tk e htk => ?_)
    · refine wpAny_bind (wpAny_seqItems hl rfl ?_)
      dsimp only
      refine w_neg (by rw [ht]; decide) ?_
      rw [items_at h j hj]
      refine wpAny_bind (wpAny_holding (wpAny_of_eq take_eq ?_))
      dsimp only
      refine wpAny_bind (wpAny_seqItems hl rfl ?_)
      exact w_neg (by rw [bne_self_eq_false]; exact Bool.false_ne_true) (wpAny_pure hR')
    · obtain rfl : pt = (l.map (·.1)).toArray := Array.toList_inj.mp e
      refine wpAny_bind (wpAny_of_eq (a := sep) rfl ?_)
      refine w_neg (not_long hb) ?_
      refine wpAny_bind (wpAny_mkBytes ?_ (Nat.le_trans (joined_size sep _) (Nat.le_trans hb (by decide))))
      refine wpAny_bind (wpAny_holding (wpAny_point ?_))
      exact wpAny_bind (joinLetGo_ok htk (wpAny_pure ⟨_, rfl, K (s.toks + 1) s.toks⟩))
end
end Mine
end
end
section
set_option maxRecDepth 100000
set_option linter.unusedVariables false
set_option linter.unusedSectionVars false
set_option autoImplicit false
set_option genSizeOf false
set_option genInjectivity false
set_option maxHeartbeats 0
noncomputable section
namespace Mine
open PySem PySem.W PyProof.Rows
/-! the engine at (?m)^\. -/
noncomputable def dotCode : Array Nat := #[14, 4, 0, 1, 1, 6, 1, 16, 46, 1]
noncomputable def stepN : Nat → Sre.M → Sre.M
  | 0, m => m
  | k + 1, m => stepN k m.step
theorem stepN_add : ∀ (a b : Nat) (m : Sre.M), stepN (a + b) m = stepN b (stepN a m)
  | 0, b, m => by rw [Nat.zero_add]; rfl
  | a + 1, b, m => by rw [Nat.succ_add]; exact stepN_add a b m.step
noncomputable def bol (text : Array Nat) (s : Nat) : Bool := s == 0 || text.getD (s - 1) 0 == 10
/-- an attempt at s, at the place pc -/
noncomputable def att (text : Array Nat) (lim s : Nat) (first must : Bool) (sn : Sre.Seen) (h pc pos : Nat) (ans : Option Bool) : Sre.M :=
  { code := dotCode, text, lim, start := s, lastStart := lim, wholeText := false, mustAdvance := must, pc := pc, pos := pos, handed := h, outermost := first, marks := #[],
    frames := [{ wait := .nextStart, pc := 5, pos := s, outermost := first }], weight := 1, answer := ans, seen := sn }
theorem st_at (text : Array Nat) (lim s : Nat) (first must : Bool) (sn : Sre.Seen) (h : Nat) : (att text lim s first must sn h 5 s none).step =
    if bol text s = true then att text lim s first must ((sn.add 6).add 44) h 7 s none else att text lim s first must ((sn.add 6).add 44) h 5 s (some false) := rfl
theorem st_lit (text : Array Nat) (lim s : Nat) (first must : Bool) (sn : Sre.Seen) (h : Nat) : (att text lim s first must sn h 7 s none).step =
    if s ≥ lim then att text lim s first must (sn.add 16) h 7 s (some false) else match text.getD s 0 == 46 with
      | true => att text lim s first must (sn.add 16) h 9 (s + 1) none
      | false => att text lim s first must (sn.add 16) h 7 s (some false) := by
  show (if s ≥ lim then _ else _) = _
  by_cases q : s ≥ lim
  · rw [if_pos q, if_pos q]; rfl
  · rw [if_neg q, if_neg q]
    show (match (Except.ok (text.getD s 0 == 46, sn.add 16) : Except String (Bool × Sre.Seen)) with | .error why => _ | .ok (false, seen) => _ | .ok (true, seen) => _) = _
    cases text.getD s 0 == 46 <;> rfl
theorem st_succ (text : Array Nat) (lim s : Nat) (first must : Bool) (sn : Sre.Seen) (h : Nat) : (att text lim s first must sn h 9 (s + 1) none).step = att text lim s first must (sn.add 1) (s + 1) 9 (s + 1) (some true) := by
  show (if (first && (false || (must && (s + 1 == s)))) = true then _ else _) = _
  rw [if_neg (by rw [show (s + 1 == s) = false by simp]; simp)]
  rfl
/-- the end -/
noncomputable def fin (text : Array Nat) (lim s : Nat) (first must : Bool) (sn : Sre.Seen) (h pc pos : Nat) (yes : Bool) (o : Option Sre.Outcome) (ans : Option Bool) : Sre.M :=
  { code := dotCode, text, lim, start := s, lastStart := lim, wholeText := false, mustAdvance := must, pc := pc, pos := pos, handed := h, outermost := first, marks := #[],
    frames := [], weight := 0, answer := ans, seen := sn, outcome := o }
theorem st_yes (text : Array Nat) (lim s : Nat) (first must : Bool) (sn : Sre.Seen) (h pc pos : Nat) : (att text lim s first must sn h pc pos (some true)).step = fin text lim s first must sn h 5 s true none (some true) := rfl
theorem st_no (text : Array Nat) (lim s : Nat) (first must : Bool) (sn : Sre.Seen) (h pc pos : Nat) : (att text lim s first must sn h pc pos (some false)).step =
    if s < lim then att text lim (s + 1) false false sn (s + 1) 5 (s + 1) none else fin text lim s first must sn h 5 s false none (some false) := by
  show (if s < lim then _ else _) = _
  by_cases q : s < lim
  · rw [if_pos q, if_pos q]; rfl
  · rw [if_neg q, if_neg q]; rfl
theorem st_fin (text : Array Nat) (lim s : Nat) (first must : Bool) (sn : Sre.Seen) (h pc pos : Nat) (yes : Bool) : (fin text lim s first must sn h pc pos yes none (some yes)).step = fin text lim s first must sn h pc pos yes (some (if yes then .matched else .failed)) (some yes) := rfl
end Mine
end
end
section
set_option maxRecDepth 100000
set_option linter.unusedVariables false
set_option linter.unusedSectionVars false
set_option autoImplicit false
set_option genSizeOf false
set_option genInjectivity false
set_option maxHeartbeats 0
noncomputable section
namespace Mine
open PySem PySem.W PyProof.Rows
/-- the first place from s on -/
noncomputable def nextDot (text : Array Nat) (lim : Nat) : Nat → Nat → Option Nat
  | 0, _ => none
  | n + 1, s => if (bol text s && decide (s < lim) && (text.getD s 0 == 46)) = true then some s else nextDot text lim n (s + 1)
noncomputable def Ends (m : Sre.M) (r : Option Nat) : Prop :=
  match r with
  | some p => m.outcome = some .matched ∧ m.start = p ∧ m.handed = p + 1
  | none => m.outcome = some .failed
theorem att_run (text : Array Nat) (lim : Nat) (must : Bool) : ∀ (n s : Nat) (first must : Bool) (sn : Sre.Seen) (h : Nat), s + n = lim + 1 → 0 < n →
    ∃ k m, k ≤ 4 * n + 1 ∧ stepN k (att text lim s first must sn h 5 s none) = m ∧ Ends m (nextDot text lim n s)
  | 0, s, first, must, sn, h, _, hn => absurd hn (by omega)
  | n + 1, s, first, must, sn, h, hs, _ => by
    have next : ∀ (j : Nat) (sn' : Sre.Seen) (h' pc' pos' : Nat), j ≤ 3 → stepN j (att text lim s first must sn h 5 s none) = att text lim s first must sn' h' pc' pos' (some false) →
        (bol text s && decide (s < lim) && (text.getD s 0 == 46)) = false →
        ∃ k m, k ≤ 4 * (n + 1) + 1 ∧ stepN k (att text lim s first must sn h 5 s none) = m ∧ Ends m (nextDot text lim (n + 1) s) := by
      intro j sn' h' pc' pos' hj e hf
      rw [show nextDot text lim (n + 1) s = nextDot text lim n (s + 1) from if_neg (by rw [hf]; exact Bool.false_ne_true)]
      by_cases q : s < lim
      · obtain ⟨k, m, hk, hm, he⟩ := att_run text lim must n (s + 1) false false sn' (s + 1) (by omega) (by omega)
        refine ⟨j + (1 + k), m, by omega, ?_, he⟩
        rw [stepN_add, e, stepN_add]
        show stepN k ((att text lim s first must sn' h' pc' pos' (some false)).step) = m
        rw [st_no, if_pos q, hm]
      · have hn : n = 0 := by omega
        subst hn
        refine ⟨j + 2, _, by omega, rfl, ?_⟩
        rw [stepN_add, e]
        show Ends ((att text lim s first must sn' h' pc' pos' (some false)).step).step (nextDot text lim 0 (s + 1))
        rw [st_no, if_neg q, st_fin]
        rfl
    by_cases b : bol text s = true
    · by_cases q : s < lim
      · by_cases c : text.getD s 0 = 46
        · refine ⟨5, _, by omega, rfl, ?_⟩
          rw [show nextDot text lim (n + 1) s = some s from if_pos (by rw [b, c]; simp [q])]
          show Ends (((((att text lim s first must sn h 5 s none).step).step).step).step).step _
          rw [st_at, if_pos b, st_lit, if_neg (by omega), show (text.getD s 0 == 46) = true by rw [c]; rfl]
          dsimp only
          rw [st_succ, st_yes, st_fin]
          exact ⟨rfl, rfl, rfl⟩
        · refine next 2 (((sn.add 6).add 44).add 16) h 7 s (by omega) ?_ (by rw [show (text.getD s 0 == 46) = false by simpa using c]; simp)
          show ((att text lim s first must sn h 5 s none).step).step = _
          rw [st_at, if_pos b, st_lit, if_neg (by omega), show (text.getD s 0 == 46) = false by simpa using c]
      · refine next 2 (((sn.add 6).add 44).add 16) h 7 s (by omega) ?_ (by simp [q])
        show ((att text lim s first must sn h 5 s none).step).step = _
        rw [st_at, if_pos b, st_lit, if_pos (by omega)]
    · refine next 1 ((sn.add 6).add 44) h 5 s (by omega) ?_ (by simp [b])
      show (att text lim s first must sn h 5 s none).step = _
      rw [st_at, if_neg b]
theorem search_run (text : Array Nat) (pos lim : Nat) (must : Bool) : ∃ k m, k ≤ 4 * (lim + 2) ∧ stepN k (Sre.forSearch dotCode text 0 pos lim must) = m ∧ Ends m (nextDot text lim (lim + 1 - pos) pos) := by
  by_cases q : pos < lim
  · obtain ⟨k, m, hk, hm, he⟩ := att_run text lim must (lim + 1 - pos) pos true must (({} : Sre.Seen).add 14) pos (by omega) (by omega)
    refine ⟨k, m, by omega, ?_, he⟩
    rw [← hm]
    congr 1
    show (if (decide (pos > lim) || decide (lim - pos < 1)) = true then _ else _) = _
    rw [if_neg (by simp; omega)]
    rfl
  · refine ⟨1, _, by omega, rfl, ?_⟩
    have hz : nextDot text lim (lim + 1 - pos) pos = none := by
      by_cases e : pos = lim
      · subst e
        rw [show pos + 1 - pos = 1 by omega]
        show (if _ then _ else _) = none
        rw [if_neg (by simp)]
        rfl
      · rw [show lim + 1 - pos = 0 by omega]; rfl
    rw [hz]
    show (Sre.forSearch dotCode text 0 pos lim must).step.outcome = some .failed
    have : (Sre.forSearch dotCode text 0 pos lim must) = (if (decide (pos > lim) || decide (lim - pos < 1)) = true then Sre.M.say _ false else _) := rfl
    rw [this, if_pos (by simp; omega)]
    rfl
theorem step_done (m : Sre.M) (h : m.outcome.isSome = true) : m.step = m := by unfold Sre.M.step; rw [if_pos h]
theorem stepN_done : ∀ (n : Nat) (m : Sre.M), m.outcome.isSome = true → stepN n m = m
  | 0, m, _ => rfl
  | n + 1, m, h => by show stepN n m.step = m; rw [step_done m h]; exact stepN_done n m h
theorem runFor_eq : ∀ (n : Nat) (m : Sre.M), m.runFor n = stepN n m
  | 0, m => rfl
  | n + 1, m => by
    show (if m.outcome.isSome = true then m else m.step.runFor n) = stepN n m.step
    by_cases h : m.outcome.isSome = true
    · rw [if_pos h, step_done m h, stepN_done n m h]
    · rw [if_neg h]; exact runFor_eq n m.step
theorem drive_ok {M : Model} {A : Around} {E : Value → Shared → Prop} {s : Shared} : ∀ (turns k : Nat) (m m' : Sre.M) (Q : Sre.M → Shared → Prop), stepN k m = m' → m'.outcome.isSome = true → k ≤ 4 * turns → 0 < turns → Q m' s → wpAny M A (Builtin.Re.reDrive turns m) Q E s
  | 0, k, m, m', Q, _, _, _, h, _ => absurd h (by omega)
  | turns + 1, k, m, m', Q, hk, ho, hl, _, hQ => by
    unfold Builtin.Re.reDrive
    rw [runFor_eq, show Builtin.Re.reTurnSteps = 4 from rfl]
    dsimp only
    by_cases q : k ≤ 4
    · have e : stepN 4 m = m' := by
        rw [show 4 = k + (4 - k) by omega, stepN_add, hk, stepN_done _ _ ho]
      rw [e, if_pos ho]
      exact wpAny_pure hQ
    · have e : stepN (k - 4) (stepN 4 m) = m' := by rw [← stepN_add, show 4 + (k - 4) = k by omega, hk]
      by_cases p : (stepN 4 m).outcome.isSome = true
      · rw [if_pos p]
        rw [stepN_done _ _ p] at e
        rw [e]
        exact wpAny_pure hQ
      · rw [if_neg p]
        exact wpAny_bind (wpAny_rule (drive_ok turns (k - 4) _ m' Q e ho (by omega) (by omega) hQ))
theorem rules_ok {M : Model} {A : Around} {E : Value → Shared → Prop} {s : Shared} (m : Sre.M) {β : Type} (g : PUnit → Sem β) : ∀ (l : List Nat) (Q : β → Shared → Prop), wpAny M A (g ⟨⟩) Q E s →
    wpAny M A (forIn l PUnit.unit (fun i _ => (if m.seen.has i = true then (do rule (Sre.names.getD i ""); pure (ForInStep.yield PUnit.unit)) else pure (ForInStep.yield PUnit.unit) : Sem (ForInStep PUnit))) >>= g) Q E s
  | [], Q, h => by rw [List.forIn_nil, pure_bind]; exact h
  | i :: l, Q, h => by
    rw [List.forIn_cons, bind_assoc]
    have h' := rules_ok m g l Q h
    by_cases p : m.seen.has i = true
    · rw [if_pos p, bind_assoc]
      refine wpAny_bind (wpAny_rule ?_)
      rw [pure_bind]
      exact h'
    · rw [if_neg p, pure_bind]
      exact h'
theorem toEnd_ok {M : Model} {A : Around} {E : Value → Shared → Prop} {s : Shared} {k : Nat} {m m' : Sre.M} {r : Option Nat} {Q : Option Sre.M → Shared → Prop} (hk : stepN k m = m') (he : Ends m' r) (hl : k ≤ 4 * 2 ^ 64)
    (hQ : match (r : Option Nat) with | some p => m'.start = p → m'.handed = p + 1 → Q (some m') s | none => Q none s) : wpAny M A (Builtin.Re.reRunToEnd m) Q E s := by
  unfold Builtin.Re.reRunToEnd
  have ho : m'.outcome.isSome = true := by
    cases r with
    | none => rw [show m'.outcome = _ from he]; rfl
    | some p => rw [he.1]; rfl
  refine wpAny_bind (drive_ok _ k m m' _ hk ho hl (by decide) ?_)
  refine rules_ok m' _ _ _ ?_
  cases r with
  | none => rw [show m'.outcome = _ from he]; exact wpAny_pure hQ
  | some p => rw [he.1]; exact wpAny_pure (hQ he.2.1 he.2.2)
theorem nextFound_ok {M : Model} {A : Around} {E : Value → Shared → Prop} {s : Shared} {t : Builtin.Re.ReTarget} {start : Nat} {must : Bool} {Q : Option Sre.M → Shared → Prop} (hc : t.code = dotCode) (hg : t.groups = 0) (hl : t.lim ≤ 2 ^ 63)
    (hQ : match nextDot t.text t.lim (t.lim + 1 - start) start with | some p => ∀ m' : Sre.M, m'.start = p → m'.handed = p + 1 → Q (some m') s | none => Q none s) : wpAny M A (Builtin.Re.reNextFound t start must) Q E s := by
  unfold Builtin.Re.reNextFound
  rw [hc, hg]
  obtain ⟨k, m, hk, hm, he⟩ := search_run t.text start t.lim must
  refine toEnd_ok hm he (by omega) ?_
  cases h : nextDot t.text t.lim (t.lim + 1 - start) start with
  | none => rw [h] at hQ; exact hQ
  | some p => rw [h] at hQ; exact hQ m
end Mine
end
end
section
set_option maxRecDepth 100000
set_option linter.unusedVariables false
set_option linter.unusedSectionVars false
set_option autoImplicit false
set_option genSizeOf false
set_option genInjectivity false
set_option maxHeartbeats 0
noncomputable section
namespace Mine
open PySem PySem.W PyProof.Rows
/-- the text with each leading dot doubled -/
noncomputable def quo : Bool → List Nat → List Nat
  | _, [] => []
  | b, c :: r => match b with
    | true => match Nat.beq c 46 with
      | true => 46 :: 46 :: quo false r
      | false => c :: quo (Nat.beq c 10) r
    | false => c :: quo (Nat.beq c 10) r
theorem quo_len : ∀ (b : Bool) (l : List Nat), (quo b l).length ≤ 2 * l.length
  | _, [] => by simp [quo]
  | b, c :: r => by
    unfold quo
    have h1 := quo_len false r
    have h2 := quo_len (Nat.beq c 10) r
    split
    · split <;> simp <;> omega
    · simp; omega
theorem quo_keep {b : Bool} {c : Nat} {r : List Nat} (h : ¬ (b = true ∧ c = 46)) : quo b (c :: r) = c :: quo (Nat.beq c 10) r := by
  cases b with
  | false => rfl
  | true =>
    show (match Nat.beq c 46 with | true => _ | false => _) = _
    cases hc : Nat.beq c 46 with
    | true => exact absurd ⟨rfl, Nat.eq_of_beq_eq_true hc⟩ h
    | false => rfl
noncomputable def quoB (T : List Nat) (d : Nat) : List UInt8 := (quo (bol T.toArray d) (T.drop d)).map UInt8.ofNat
noncomputable def seg (T : List Nat) (d e : Nat) : Array UInt8 := (T.toArray.extract d e).map (·.toUInt8)
theorem seg_list (T : List Nat) (d e : Nat) : (seg T d e).toList = ((T.drop d).take (e - d)).map UInt8.ofNat := by
  unfold seg
  simp [List.extract_eq_take_drop]
theorem quoB_end {T : List Nat} {s : Nat} (h : T.length ≤ s) : quoB T s = [] := by
  unfold quoB
  rw [List.drop_eq_nil_of_le h]
  rfl
theorem seg_end {T : List Nat} {s : Nat} (e : Nat) (h : T.length ≤ s) : (seg T s e).toList = [] := by
  rw [seg_list, List.drop_eq_nil_of_le h, List.take_nil]
  rfl
theorem seg_self (T : List Nat) (s : Nat) : (seg T s s).toList = [] := by
  rw [seg_list, Nat.sub_self]
  rfl
theorem sub_one {p s : Nat} (h : s + 1 ≤ p) : p - s = (p - (s + 1)) + 1 := by omega
theorem seg_cons {T : List Nat} {s p : Nat} (q : s < T.length) (h : s + 1 ≤ p) : (seg T s p).toList = UInt8.ofNat T[s] :: (seg T (s + 1) p).toList := by
  rw [seg_list, seg_list, List.drop_eq_getElem_cons q, sub_one h]
  rfl
theorem bol_next {T : List Nat} {s : Nat} (q : s < T.length) : bol T.toArray (s + 1) = Nat.beq T[s] 10 := by
  have hg : T.toArray.getD s 0 = T[s] := by simp [Array.getD_eq_getD_getElem?, q]
  unfold bol
  rw [show (s + 1 == 0) = false by simp, Nat.add_sub_cancel, hg]
  simp
  rw [Bool.eq_iff_iff]
  simp [Nat.beq_eq]
theorem quoB_keep {T : List Nat} {s : Nat} (q : s < T.length) (c : ¬ (bol T.toArray s = true ∧ T[s] = 46)) : quoB T s = UInt8.ofNat T[s] :: quoB T (s + 1) := by
  unfold quoB
  rw [List.drop_eq_getElem_cons q, quo_keep c, bol_next q]
  rfl
theorem quoB_dot {T : List Nat} {s : Nat} (q : s < T.length) (c : bol T.toArray s = true ∧ T[s] = 46) : quoB T s = 46 :: 46 :: quoB T (s + 1) := by
  unfold quoB
  rw [List.drop_eq_getElem_cons q, bol_next q, c.1, c.2]
  rfl
theorem cond_iff {T : List Nat} {s : Nat} : (bol T.toArray s && decide (s < T.length) && (T.toArray.getD s 0 == 46)) = true ↔ ∃ q : s < T.length, bol T.toArray s = true ∧ T[s] = 46 := by
  by_cases q : s < T.length
  · simp [q, Array.getD_eq_getD_getElem?]
  · simp [q]
theorem next_all {T : List Nat} (n : Nat) : ∀ s, s + n = T.length + 1 → (nextDot T.toArray T.length n s = none → quoB T s = (seg T s T.length).toList) ∧
    ∀ p, nextDot T.toArray T.length n s = some p → s ≤ p ∧ p < T.length ∧ quoB T s = (seg T s p).toList ++ 46 :: 46 :: quoB T (p + 1) := by
  induction n with
  | zero =>
    intro s hs
    have h : T.length ≤ s := Nat.le_of_succ_le (Nat.le_of_eq hs.symm)
    exact ⟨fun _ => (quoB_end h).trans (seg_end _ h).symm, fun p e => (nomatch e)⟩
  | succ n ih =>
    intro s hs
    have ih := ih (s + 1) ((Nat.add_right_comm s 1 n).trans hs)
    unfold nextDot
    by_cases c : (bol T.toArray s && decide (s < T.length) && (T.toArray.getD s 0 == 46)) = true
    · rw [if_pos c]
      obtain ⟨q, c⟩ := cond_iff.mp c
      refine ⟨fun e => (nomatch e), fun p e => ?_⟩
      cases e
      refine ⟨Nat.le_refl _, q, ?_⟩
      rw [seg_self]
      exact quoB_dot q c
    · rw [if_neg c]
      by_cases q : s < T.length
      · have c : ¬ (bol T.toArray s = true ∧ T[s] = 46) := fun x => c (cond_iff.mpr ⟨q, x⟩)
        rw [quoB_keep q c]
        refine ⟨fun e => ?_, fun p e => ?_⟩
        · rw [ih.1 e, seg_cons q q]
        · obtain ⟨h1, h2, h3⟩ := ih.2 p e
          rw [h3, seg_cons q h1]
          exact ⟨Nat.le_of_succ_le h1, h2, rfl⟩
      · refine ⟨fun e => (quoB_end (Nat.le_of_not_lt q)).trans (seg_end _ (Nat.le_of_not_lt q)).symm, fun p e => ?_⟩
        have := ih.2 p e
        exact absurd (Nat.lt_of_le_of_lt (Nat.le_of_succ_le this.1) this.2.1) q
theorem joined_flat (l : List (Array UInt8)) : ∀ (k : Nat) (out : Array UInt8), ((l.zipIdx k).foldl (fun out (p, i) => (if i > 0 then out ++ #[] else out) ++ p) out).toList = out.toList ++ (l.map Array.toList).flatten := by
  induction l with
  | nil => intro k out; exact (List.append_nil _).symm
  | cons a r ih =>
    intro k out
    rw [List.zipIdx_cons, List.foldl_cons]
    refine (ih (k + 1) _).trans ?_
    simp
theorem sum_flat (l : List (Array UInt8)) : ∀ (k : Nat), l.foldl (fun x y => x + y.size) k = k + ((l.map Array.toList).flatten).length := by
  induction l with
  | nil => intro k; rfl
  | cons a r ih =>
    intro k
    refine (ih _).trans ?_
    rw [List.map_cons, List.flatten_cons, List.length_append, Nat.add_assoc]
    rfl
theorem joined_nil (l : List (Array UInt8)) : Builtin.Bytes.joined #[] l = ((l.map Array.toList).flatten).toArray := Array.toList_inj.mp ((joined_flat l 0 #[]).trans (List.nil_append _))
/-! the pattern -/
noncomputable def patB (b : Array UInt8) (t1 t2 t3 t4 t5 : Tok) : Obj := { cls := .type "re.Pattern", data := .fields #[.bytes b t1, .int 8 t2, .int 0 t3, .none, .none, .ref 61, .int 1 t5] }
noncomputable def codeVals (l : List Nat) : Array Value := (l.map fun (n : Nat) => Value.int (n : Int) 0).toArray
structure PatAt (h : Heap) (x : Addr) : Prop where
  o : ∃ b t1 t2 t3 t5 y, h.get? x = some { cls := .type "re.Pattern", data := .fields #[.bytes b t1, .int 8 t2, .int 0 t3, .none, .none, .ref y, .int 1 t5] } ∧
    h.get? y = some { cls := .type "tuple", data := .seq #[.int 14 0, .int 4 0, .int 0 0, .int 1 0, .int 1 0, .int 6 0, .int 1 0, .int 16 0, .int 46 0, .int 1 0] }
theorem PatAt.move {h h' : Heap} {x : Addr} (p : PatAt h x) (k : ∀ b o, h.get? b = some o → h'.get? b = some o) : PatAt h' x :=
by
  obtain ⟨b, t1, t2, t3, t5, y, e1, e2⟩ := p.o
  exact ⟨b, t1, t2, t3, t5, y, k _ _ e1, k _ _ e2⟩
section
variable {M : Model} {A : Around} {E : Value → Shared → Prop} {s : Shared}
theorem tx_all {T : List Nat} (hT8 : ∀ x ∈ T, x < 256) : ((T.map UInt8.ofNat).toArray.map (·.toNat)) = T.toArray := by
  apply Array.toList_inj.mp
  simp only [Array.toList_map, List.map_map]
  refine Eq.trans (List.map_congr_left (g := id) fun y hy => ?_) (List.map_id _)
  exact Nat.mod_eq_of_lt (hT8 y hy)
theorem raw_dot : ((((some #[Value.int 14 0, Value.int 4 0, Value.int 0 0, Value.int 1 0, Value.int 1 0, Value.int 6 0, Value.int 1 0, Value.int 16 0, Value.int 46 0, Value.int 1 0] : Option (Array Value)).getD #[]).map Builtin.Re.reRawOf).map (fun x => x.toNat)) = dotCode := by decide +kernel
theorem text_ok {b : Array UInt8} {t : Tok} {Q : Array Nat × Nat → Shared → Prop} (h : Q (b.map (·.toNat), 1) s) : wpAny M A (Builtin.Re.reTextOf (.bytes b t)) Q E s := by
  unfold Builtin.Re.reTextOf
  refine wpAny_bind (wpAny_of_eq (a := none) rfl ?_)
  exact wpAny_bind (wpAny_of_eq KBy.quiet_eq (wpAny_pure h))
theorem whole_ok {x : Addr} {T : List Nat} (hT8 : ∀ x ∈ T, x < 256) {t : Tok} {Q : Builtin.Re.ReTarget → Shared → Prop} (p : PatAt s.heap x)
    (h : Q ⟨.ref x, .bytes (T.map UInt8.ofNat).toArray t, dotCode, T.toArray, 1, 0, 0, T.length⟩ s) : wpAny M A (Builtin.Re.reWholeTarget (.ref x) (.bytes (T.map UInt8.ofNat).toArray t)) Q E s := by
  obtain ⟨pb, t1, t2, t3, t5, y, e1, e2⟩ := p.o
  rw [← tx_all hT8, ← raw_dot, show T.length = ((T.map UInt8.ofNat).toArray.map (·.toNat)).size by simp] at h
  unfold Builtin.Re.reWholeTarget
  refine wpAny_bind (wpAny_fieldsOf e1 rfl ?_)
  refine wpAny_bind (text_ok ?_)
  refine w_neg Bool.false_ne_true (w_neg Bool.false_ne_true (wpAny_bind ?_))
  unfold Builtin.Re.reNoCollectionInside
  refine w_pos (by decide) (wpAny_bind (wpAny_of_eq KBy.isInstance_eq ?_))
  refine w_neg (by decide) (wpAny_pure (wpAny_bind ?_))
  unfold Builtin.Re.reRawItems
  exact wpAny_bind (wpAny_seqItems e2 rfl (wpAny_pure (wpAny_pure h)))
theorem slice_ok {T : List Nat} {b e : Nat} {Q : Value → Shared → Prop} (hz : T.length ≤ 2000) (h : ∀ t', Q (.bytes (seg T b e) t') { s with toks := s.toks + 1 }) : wpAny M A (Builtin.Re.reSlice T.toArray 1 b e) Q E s := by
  unfold Builtin.Re.reSlice
  refine w_neg (by decide) (wpAny_mkBytes (h _) ?_)
  refine Nat.le_trans ?_ (show 10000 ≤ sizeLine by decide)
  rw [Array.size_map, Array.size_extract, List.size_toArray]
  omega
theorem turn_ok {b : Array UInt8} {t : Tok} {Q : Unit → Shared → Prop} (h : Q () s) : wpAny M A (Builtin.Re.reLiteralCannotBeTurned (.bytes b t)) Q E s := by
  unfold Builtin.Re.reLiteralCannotBeTurned
  refine wpAny_bind (wpAny_of_eq (a := none) rfl ?_)
  refine w_pos rfl (wpAny_bind (wpAny_of_eq KBy.isInstance_eq ?_))
  exact w_neg (by decide) (wpAny_pure h)
noncomputable def flatL (l : List (Array UInt8 × Tok)) : List UInt8 := ((l.map (·.1)).map Array.toList).flatten
theorem flat_add (l : List (Array UInt8 × Tok)) (b : Array UInt8) (t : Tok) : flatL (l ++ [(b, t)]) = flatL l ++ b.toList := by simp [flatL]
structure LH (h0 : Heap) (a : Addr) (l : List (Array UInt8 × Tok)) (items : Array Value) (m : Nat) (h : Heap) : Prop where
  hi : items.toList = l.map fun p => .bytes p.1 p.2
  hl : IsL h a items m
  K0 : ∀ b o, h0.get? b = some o → h.get? b = some o
  na : h0.get? a = none
theorem fit {n : Nat} (h : n ≤ 5000) : n ≤ sizeLine := by rw [sizeLine_eq]; omega
theorem LH.push {h0 : Heap} {a : Addr} {l : List (Array UInt8 × Tok)} {items : Array Value} {m : Nat} {h : Heap} (X : LH h0 a l items m h) {b : Array UInt8} {t : Tok} {Q : Unit → Shared → Prop} (hz : items.size + 1 ≤ 5000)
    (k : ∀ h' m', LH h0 a (l ++ [(b, t)]) (items.push (.bytes b t)) m' h' → Q () { s with heap := h' }) (hs : s.heap = h := by rfl) : wpAny M A (updateSeq a fun x => x.push (.bytes b t)) Q E s := by
  subst hs
  refine wpAny_updateSeq X.hl rfl (k _ _ ⟨?_, Heap.get?_update_self _ X.hl rfl, fun b o e => ?_, X.na⟩) (fit (Nat.le_of_succ_le hz)) (Nat.le_trans (Nat.le_of_eq (Array.size_push _)) (Nat.le_trans (fit hz) (Nat.le_succ _)))
  · rw [Array.toList_push, X.hi, List.map_append]
    rfl
  · rw [Heap.get?_update_ne _ _ _ _ fun q => ?_]
    · exact X.K0 _ _ e
    · rw [q, X.na] at e
      cases e
theorem nextD_ok {T : List Nat} (hT : T.length ≤ 2000) {x y : Value} {d : Nat} (hd : d ≤ T.length) {must : Bool} {Q : Option Sre.M → Shared → Prop} (h0 : quoB T d = (seg T d T.length).toList → Q none s)
    (h1 : ∀ m' : Sre.M, d ≤ m'.start → m'.start < T.length → m'.handed = m'.start + 1 → quoB T d = (seg T d m'.start).toList ++ 46 :: 46 :: quoB T (m'.start + 1) → Q (some m') s) :
    wpAny M A (Builtin.Re.reNextFound ⟨x, y, dotCode, T.toArray, 1, 0, 0, T.length⟩ d must) Q E s := by
  have sp := next_all (T := T) (T.length + 1 - d) d (by omega)
  refine nextFound_ok rfl rfl (Nat.le_trans hT (by decide)) ?_
  dsimp only
  cases hr : nextDot T.toArray T.length (T.length + 1 - d) d with
  | none => exact h0 (sp.1 hr)
  | some p =>
    obtain ⟨a, b, c⟩ := sp.2 p hr
    intro m' e1 e2
    subst e1
    exact h1 m' a b e2 c
theorem plain_loop : plainId "re.Pattern.sub.loop" = true := by decide +kernel
theorem entry_loop : entryFor table "re.Pattern.sub.loop" = some Builtin.«re.Pattern.sub.loop» := entryFor_of_tree (by kernel_rfl)
end
section
variable {C : Cx}
structure LJ (T : List Nat) (WU : List UInt8) (h0 : Heap) (a : Addr) (d : Nat) (l : List (Array UInt8 × Tok)) (items : Array Value) (m : Nat) (h : Heap) : Prop where
  X : LH h0 a l items m h
  hd : d ≤ T.length
  his : items.size ≤ 2 * d
  hw : flatL l ++ quoB T d = WU
theorem his2 {n d p : Nat} (h : n ≤ 2 * d) (q : d < p) : n + 1 + 1 ≤ 2 * (p + 1) := by omega
theorem his1 {n d p : Nat} (h : n ≤ 2 * d) (q : d ≤ p) : n + 1 ≤ 2 * (p + 1) := by omega
theorem z1 {n d t : Nat} (h : n ≤ 2 * d) (hd : d ≤ t) (ht : t ≤ 2000) : n + 1 ≤ 5000 := by omega
theorem z2 {n d t : Nat} (h : n ≤ 2 * d) (hd : d ≤ t) (ht : t ≤ 2000) : n + 1 + 1 ≤ 5000 := by omega
theorem lt_k {t d p k : Nat} (h : t - d < k + 1) (h1 : d ≤ p) (h2 : p < t) : t - (p + 1) < k := by omega
theorem dots_list : (#[46, 46] : Array UInt8).toList = [46, 46] := rfl
theorem LJ.two {T : List Nat} {WU : List UInt8} {h0 : Heap} {a : Addr} {d : Nat} {l : List (Array UInt8 × Tok)} {items : Array Value} {m m2 : Nat} {h h2 : Heap} {p : Nat} {t t2 : Tok} (J : LJ T WU h0 a d l items m h) (q : d < p) (hp : p < T.length)
    (e : quoB T d = (seg T d p).toList ++ 46 :: 46 :: quoB T (p + 1)) (Y : LH h0 a (l ++ [(seg T d p, t)] ++ [(#[46, 46], t2)]) ((items.push (.bytes (seg T d p) t)).push (.bytes #[46, 46] t2)) m2 h2) :
    LJ T WU h0 a (p + 1) (l ++ [(seg T d p, t)] ++ [(#[46, 46], t2)]) ((items.push (.bytes (seg T d p) t)).push (.bytes #[46, 46] t2)) m2 h2 := by
  refine ⟨Y, hp, ?_, ?_⟩
  · rw [Array.size_push, Array.size_push]
    exact his2 J.his q
  · rw [flat_add, flat_add, List.append_assoc, List.append_assoc, ← J.hw, e, dots_list]
    rfl
theorem LJ.one {T : List Nat} {WU : List UInt8} {h0 : Heap} {a : Addr} {d : Nat} {l : List (Array UInt8 × Tok)} {items : Array Value} {m m2 : Nat} {h h2 : Heap} {p : Nat} {t2 : Tok} (J : LJ T WU h0 a d l items m h) (q1 : d ≤ p) (q : ¬ d < p) (hp : p < T.length)
    (e : quoB T d = (seg T d p).toList ++ 46 :: 46 :: quoB T (p + 1)) (Y : LH h0 a (l ++ [(#[46, 46], t2)]) (items.push (.bytes #[46, 46] t2)) m2 h2) :
    LJ T WU h0 a (p + 1) (l ++ [(#[46, 46], t2)]) (items.push (.bytes #[46, 46] t2)) m2 h2 := by
  refine ⟨Y, hp, ?_, ?_⟩
  · rw [Array.size_push]
    exact his1 J.his q1
  · obtain rfl : d = p := Nat.le_antisymm q1 (Nat.le_of_not_lt q)
    rw [flat_add, List.append_assoc, ← J.hw, e, seg_self, dots_list]
    rfl
theorem flat_join {A : Around} {E : Value → Shared → Prop} {s : Shared} {h0 : Heap} {a : Addr} {l : List (Array UInt8 × Tok)} {items : Array Value} {m : Nat} {tj : Tok} {WU : List UInt8} {Q : Value → Shared → Prop} (X : LH h0 a l items m s.heap) (hW : WU.length ≤ 5000) (hw : flatL l = WU)
    (K : ∀ tk t', Q (.bytes WU.toArray t') { s with toks := tk }) : wpAny (model prog C.w) A (call (.builtin "bytes.join") [.bytes #[] tj, .ref a]) Q E s := by
  refine bjoin (l := l) X.hl X.hi ?_ fun tk t2 => ?_
  · rw [sum_flat, show ((l.map (·.1)).map Array.toList).flatten = WU from hw, Array.size_empty, Nat.zero_mul, Nat.zero_add]
    exact Nat.le_trans hW (by decide)
  · rw [joined_nil, show ((l.map (·.1)).map Array.toList).flatten = WU from hw]
    exact K tk t2
theorem seg_zero (T : List Nat) : seg T 0 0 = #[] := Array.toList_inj.mp (seg_self T 0)
theorem no_items {l : List (Array UInt8 × Tok)} {items : Array Value} (hi : items.toList = l.map fun p => .bytes p.1 p.2) (h : items.isEmpty = true) : l = [] := by
  have : items = #[] := Array.isEmpty_iff.mp h
  subst this
  exact (List.map_eq_nil_iff.mp hi.symm)
theorem not_empty_push {items : Array Value} {v : Value} : ¬ (items.push v).isEmpty = true := by simp
theorem loop_ok {T : List Nat} {WU : List UInt8} (hT : T.length ≤ 2000) (hT8 : ∀ x ∈ T, x < 256) (hW : WU.length ≤ 5000) {A : Around} {R : Result → Shared → Prop} {x a : Addr} {tb tr : Tok} {h0 : Heap} (P : PatAt h0 x) (k : Nat) :
    ∀ {d : Nat} {l : List (Array UInt8 × Tok)} {items : Array Value} {m : Nat} {must : Bool} {n : Int} {s : Shared}, T.length - d < k → LJ T WU h0 a d l items m s.heap →
      (∀ h' tk t', (∀ b o, h0.get? b = some o → h'.get? b = some o) → R (.ok (.ret (.bytes WU.toArray t'))) { s with heap := h', toks := tk }) →
      codeAny (model prog C.w) A (.builtin "re.Pattern.sub.loop" ⟨[.ref x, .bytes (T.map UInt8.ofNat).toArray tb, .bytes #[46, 46] tr, rawInt 0, rawInt 0, rawInt n, rawInt d, rawInt d, .bool must, .ref a, .bool false], []⟩) R s := by
  induction k with
  | zero => intro _ _ _ _ _ _ _ hk; exact absurd hk (Nat.not_lt_zero _)
  | succ k ih =>
    intro d l items m must n s hk J K
    refine codeAny_builtin entry_loop ?_
    rw [Around.under_plainId plain_loop _]
    unfold Builtin.«re.Pattern.sub.loop»
    refine wpAny_bind (whole_ok hT8 (P.move J.X.K0) ?_)
    refine w_pos rfl (wpAny_bind (turn_ok (wpAny_bind (w_neg Bool.false_ne_true (nextD_ok hT J.hd (fun e => ?_) fun m' h1 h2 h3 e => ?_)))))
    · by_cases q : d < T.length
      · refine w_pos q (wpAny_bind (slice_ok hT fun t' => wpAny_bind (J.X.push (z1 J.his J.hd hT) fun h1 m1 X1 => ?_)))
        refine wpAny_bind (slice_ok hT fun tj => wpAny_bind (wpAny_seqItems X1.hl rfl (w_neg not_empty_push ?_)))
        rw [seg_zero]
        refine wpAny_bind (flat_join X1 hW ((flat_add _ _ _).trans (e ▸ J.hw)) fun tk t2 => ?_)
        exact w_neg Bool.false_ne_true (wpAny_pure (K _ _ _ X1.K0))
      · have e2 : flatL l = WU := (List.append_nil _).symm.trans ((quoB_end (Nat.le_of_not_lt q)) ▸ J.hw)
        refine w_neg q (wpAny_bind (slice_ok hT fun tj => wpAny_bind (wpAny_seqItems J.X.hl rfl ?_)))
        rw [seg_zero]
        by_cases hz : items.isEmpty = true
        · obtain rfl := no_items J.X.hi hz
          subst e2
          exact w_pos hz (wpAny_bind (wpAny_pure (w_neg Bool.false_ne_true (wpAny_pure (K _ _ _ J.X.K0)))))
        · refine w_neg hz (wpAny_bind (flat_join J.X hW e2 fun tk t2 => ?_))
          exact w_neg Bool.false_ne_true (wpAny_pure (K _ _ _ J.X.K0))
    · by_cases q : d < m'.start
      · refine w_pos q (wpAny_bind (slice_ok hT fun t' => wpAny_bind (J.X.push (z1 J.his J.hd hT) fun h1 m1 X1 => ?_)))
        refine w_pos rfl (wpAny_bind (wpAny_pure (w_pos rfl (wpAny_bind (X1.push ((Array.size_push _).symm ▸ z2 J.his J.hd hT) fun h4 m4 X4 => ?_)))))
        refine wpAny_pure ⟨plainId_quiet plain_loop _, ih (h3 ▸ lt_k hk (Nat.le_of_lt q) h2) (h3 ▸ J.two q h2 e X4) fun h' tk t'' k' => K h' tk t'' k'⟩
      · refine w_neg q (w_pos rfl (wpAny_bind (wpAny_pure (w_pos rfl (wpAny_bind (J.X.push (z1 J.his J.hd hT) fun h4 m4 X4 => ?_))))))
        refine wpAny_pure ⟨plainId_quiet plain_loop _, ih (h3 ▸ lt_k hk h1 h2) (h3 ▸ J.one h1 q h2 e X4) fun h' tk t'' k' => K h' tk t'' k'⟩
theorem look_call_bytes : typeLookup (.type "bytes") "__call__" = pure none := by rw [typeLookup_type, builtinLookup_eq_fast]; kernel_rfl
theorem named_sub (a b : Value) : Builtin.Re.reNamed "re.Pattern.sub" "sub" ["repl", "string", "count"] 2 [a, b] [] = pure [some a, some b, none] := by
  kernel_rfl
theorem slot_sub : Slot "re.Pattern" "sub" "re.Pattern.sub" :=
  .of (owner := "re.Pattern") (n := "sub") (by rw [typeLookup_type, builtinLookup_eq_fast]; kernel_rfl) (by decide +kernel) (by decide +kernel) (by decide +kernel)
    (by first | exact .inl (by decide +kernel) | exact .inr (by decide +kernel)) (by rw [isSubtype_type]; kernel_rfl)
theorem type_sub : typeOf (.builtin "re.Pattern.sub") = pure (.type "method_descriptor") := by show builtinType _ = _; rw [builtinType_eq_fast]; kernel_rfl
theorem entry_sub : entryFor table "re.Pattern.sub" = some Builtin.«re.Pattern.sub» := entryFor_of_tree (by kernel_rfl)
theorem pa_pat : PlainAttrs "re.Pattern" := ⟨⟨"object.__getattribute__", by rw [typeLookup_type, builtinLookup_eq_fast]; kernel_rfl, by decide +kernel⟩, by rw [typeLookup_type, builtinLookup_eq_fast]; kernel_rfl⟩
theorem args_sub (a b c : Value) : argsOk "re.Pattern.sub" ⟨[a, b, c], []⟩ := by
  unfold argsOk
  kernel_rfl
theorem sub_ok {A : Around} {E : Value → Shared → Prop} {T : List Nat} (hT : T.length ≤ 2000) (hT8 : ∀ x ∈ T, x < 256) {s : Shared} {x : Addr} {tb tr : Tok} {Q : Value → Shared → Prop} (P : PatAt s.heap x)
    (K : ∀ h' tk t', (∀ b o, s.heap.get? b = some o → h'.get? b = some o) → Q (.bytes ((quo true T).map UInt8.ofNat).toArray t') { s with heap := h', toks := tk }) :
    wpAny (model prog C.w) A (call (.builtin "re.Pattern.sub") [.ref x, .bytes #[46, 46] tr, .bytes (T.map UInt8.ofNat).toArray tb]) Q E s := by
  have hx : s.TypeIs (.ref x) "re.Pattern" := by
    obtain ⟨pb, t1, t2, t3, t5, y, e1, e2⟩ := P.o
    exact ⟨_, e1, rfl⟩
  refine wpAny_call (codeAny_call_builtin slot_sub.plain entry_sub (slot_sub.check _ _ _ _ _ _ _ _ hx (args_sub _ _ _) ?_))
  unfold Builtin.«re.Pattern.sub» Builtin.Re.reSubstitute
  dsimp only
  refine wpAny_bind (wpAny_of_eq (named_sub _ _) ?_)
  dsimp only
  refine wpAny_bind (wpAny_pure ?_)
  refine wpAny_bind (wpAny_of_eq (KBy.special_eq look_call_bytes) ?_)
  rw [if_neg (by decide)]
  refine wpAny_bind (wpAny_of_eq (a := none) rfl ?_)
  dsimp only
  refine wpAny_bind (wpAny_of_eq KBy.quiet_eq ?_)
  dsimp only
  refine wpAny_bind (wpAny_pure ?_)
  rw [if_neg (by decide), if_pos (by simp)]
  refine wpAny_bind (wpAny_pure ?_)
  refine wpAny_bind (wpAny_holding (whole_ok hT8 P ?_))
  rw [if_neg (by exact Bool.false_ne_true)]
  refine wpAny_bind (wpAny_newList ?_)
  refine wpAny_pure ⟨plainId_quiet plain_loop _, ?_⟩
  refine loop_ok (WU := (quo true T).map UInt8.ofNat) hT hT8 (by have := quo_len true T; simp; omega) P (T.length + 1) (d := 0) (l := []) (items := #[]) (Nat.lt_succ_self _) ⟨⟨rfl, Heap.get?_push_size _ rfl, fun b o e => Heap.get?_push_of_some _ e, fresh_size _⟩, Nat.zero_le _, Nat.zero_le _, rfl⟩ K
end
end Mine
end
end
section
set_option maxRecDepth 100000
set_option linter.unusedVariables false
set_option linter.unusedSectionVars false
set_option autoImplicit false
set_option genSizeOf false
set_option genInjectivity false
set_option maxHeartbeats 0
noncomputable section
namespace Mine
open PySem PySem.W PyProof.Rows
section
variable {C : Cx} {n : Nat} {sc : Sc}
/-! bytes.join with nothing between -/
noncomputable def bytsA : List AV → Option (List (List Nat))
  | [] => some []
  | a :: r => onByt a fun b => o1 (bytsA r) fun l => some (b :: l)
noncomputable def flatN : List (List Nat) → List Nat
  | [] => []
  | a :: r => a ++ flatN r
noncomputable def oBjoin (a : List AV) (os : Store) : Option (AV × Store) := onPair a fun a b => onByt a fun s => on0 s <| onRef b fun i => onList (os.get i) fun xs => o1 (bytsA xs) fun l => bT (Nat.ble (flatN l).length 2000) <| some (.byt (flatN l), os)
theorem bytsA_are {as : List Addr} {xs : List AV} : ∀ {l : List (List Nat)} {vs : List Value}, bytsA xs = some l → RVs C as xs vs →
    ∃ z : List (Array UInt8 × Tok), vs = z.map (fun p => .bytes p.1 p.2) ∧ z.map (fun p => p.1.toList) = l.map fun b => b.map UInt8.ofNat := by
  induction xs with
  | nil => intro l vs e h; cases e; rw [show vs = [] from h]; exact ⟨[], rfl, rfl⟩
  | cons a r ih =>
    intro l vs e h
    obtain ⟨x, vr, ev, hx, hr⟩ := h
    refine onByt_elim e fun b hb e => o1_elim e fun l' q w => ?_
    cases w
    subst ev hb
    obtain ⟨z, rfl, e2⟩ := ih q hr
    exact rvByt hx fun t => ⟨((b.map UInt8.ofNat).toArray, t) :: z, rfl, by simp [e2]⟩
theorem flatN_map (l : List (List Nat)) : (l.map fun b => b.map UInt8.ofNat).flatten = (flatN l).map UInt8.ofNat := by
  induction l with
  | nil => rfl
  | cons a r ih => simp [flatN, ih]
theorem flat_z {z : List (Array UInt8 × Tok)} {l : List (List Nat)} (em : z.map (fun p => p.1.toList) = l.map fun b => b.map UInt8.ofNat) : ((z.map (·.1)).map Array.toList).flatten = (flatN l).map UInt8.ofNat := by
  rw [List.map_map, ← flatN_map, ← em]
  rfl
theorem oBjoin_ok : CallOk C (fun vs => call (.builtin "bytes.join") vs) oBjoin := by
  intro A E s hk as st L a v x os' Q hh hu e X hx K
  refine onPair_elim e fun x1 x2 ha e => onByt_elim e fun sp h1 e => on0_elim e fun h2 e => onRef_elim e fun i h3 e => onList_elim e fun xs q e => o1_elim e fun l ql e => bT_elim e fun q2 z9 => ?_
  subst ha h1 h2 h3
  refine rvs2 hx fun w w2 hw1 hw => rvByt hw1 fun t => X.listE q hw fun a items m ha hl hr => ?_
  obtain ⟨z, ez, em⟩ := bytsA_are ql hr
  have hf := flat_z em
  have b2 := ble_iff.mp q2
  refine bjoin (l := z) (sep := #[]) hl ez ?_ fun tk t' => kRet z9 K as s.heap tk _ (List.prefix_refl _) X ⟨t', ?_⟩
  · rw [sum_flat, hf]
    simp
    omega
  · rw [joined_nil, hf]
/-! the program's own objects -/
structure Pg (C : Cx) : Prop where
  frag : (hd.heap_1 C.w.params).In C.hb
  mre : C.mg (Str.ofString "_twin_re_1") = some (.ref 62)
theorem pat62 (P : Pg C) : PatAt C.hb 62 := ⟨_, _, _, _, _, _, P.frag 62 _ rfl, P.frag 61 _ rfl⟩
noncomputable def oQuote (a : List AV) (os : Store) : Option (AV × Store) := onPair a fun a b => onByt a fun x => onByt b fun b => bT (eqL x [46, 46]) <| bT (b.all (fun x => Nat.ble x 255)) <| bT (Nat.ble b.length 2000) <| some (.byt (quo true b), os)
theorem all_255 {b : List Nat} (q : b.all (fun x => Nat.ble x 255) = true) : ∀ y ∈ b, y < 256 := fun y hy => Nat.lt_succ_of_le (ble_iff.mp (List.all_eq_true.mp q y hy))
theorem eqL_is {a b : List Nat} (h : eqL a b = true) : a = b := by rw [eqL_eq] at h; simpa using h
theorem RefE.quote (O : Ok C) (P : Pg C) {a0 : Expr} {args : List Expr} {p apos pos : Pos} {fs} (hfs : RefL C n sc (a0 :: args) (cSeq fs))
    (hx : sc.s.names.lookup (Str.ofString "_twin_re_1") = some .globalImplicit) (hline : (apos.endLine == pos.line) = true)
    (hbase : ∀ env, attributeBase (.Name (Str.ofString "_twin_re_1") p) (Str.ofString "sub") env (eval (.Name (Str.ofString "_twin_re_1") p) env) = eval (.Name (Str.ofString "_twin_re_1") p) env := by intro _; rfl)
    (hfew : ∀ env, ((backTo pos (starEach (a0 :: args) env)).all (fun x => !x.1) && (backToKw pos (keywordEach [] env)).all (fun x => x.1.isSome)
      && decide ((a0 :: args).length + ([] : List Keyword).length + (if ([] : List Keyword).isEmpty then 0 else 1) < 30)) = true := by intro _; rfl)
    (hp : ∀ env, (backTo pos (starEach (a0 :: args) env)).any (·.1) = false := by intro _; rfl)
    (hse : ∀ env, starEach (a0 :: args) env = (false, eval a0 env) :: starEach args env := by intro _; rfl) :
    RefE C n sc (.Call (.Attribute (.Name (Str.ofString "_twin_re_1") p) (Str.ofString "sub") apos) (a0 :: args) [] pos) (cCall oQuote (cSeq fs)) := by
  intro A env E s hk as st st' u Q R F e' X K
  refine ob_elim e' fun a s1 q1 e => ob_elim e fun wv o q2 z9 => ?_
  refine wpAny_Call_method (hbase env) (hfew env) hline pa_pat slot_sub type_sub (nameG O X F hx P.mre (by decide) ?_)
  have P0 := pat62 P
  have hP : PatAt s.heap 62 := P0.move fun b o q => X.S.inBase q
  refine ⟨by obtain ⟨pb, t1, t2, t3, t5, y, e1, e2⟩ := hP.o; exact ⟨_, e1, rfl⟩, fun a ea => by cases ea; obtain ⟨pb, t1, t2, t3, t5, y, e1, e2⟩ := hP.o; exact ⟨_, e1, rfl⟩, ?_⟩
  refine Calls.callWith_builtin (hp env) ?_
  refine args_of (hse env) (hfs pos R F q1 X fun as2 h2 t2 xs p2 X2 hxs => ?_)
  show wpAny (model prog C.w) A (call (.builtin "re.Pattern.sub") (.ref 62 :: xs)) Q E _
  refine onPair_elim q2 fun x1 x2 ha e => onByt_elim e fun sp h1 e => onByt_elim e fun b h2 e => bT_elim e fun q0 e => bT_elim e fun q3 e => bT_elim e fun q4 z => ?_
  cases eqL_is q0
  subst ha h1 h2
  refine rvs2 hxs fun w w2 hw1 hw => rvByt hw1 fun t => rvByt hw fun tb => ?_
  exact sub_ok (ble_iff.mp q4) (all_255 q3) (P0.move fun b o q => X2.S.inBase q) fun h' tk t' k => kRet z (kRetT z9 K) as2 h' tk _ p2 (X2.ext k) ⟨t', rfl⟩
end
end Mine
end
end
section
set_option maxRecDepth 100000
set_option maxHeartbeats 0
set_option linter.unusedVariables false
set_option linter.unusedSectionVars false
set_option autoImplicit false
set_option genSizeOf false
set_option genInjectivity false
noncomputable section
namespace Mine
open PySem PySem.W PyProof.Rows
section
variable {C : Cx} {n : Nat}
theorem lenS {v : List Value} {n : Nat} (h : v.length = n + 1) : ∃ a r, v = a :: r ∧ r.length = n := by
  cases v with
  | nil => cases h
  | cons a r => exact ⟨a, r, rfl, Nat.succ.inj h⟩
theorem len1 {v : List Value} {x0 : Nat} (h : v.length = [x0].length) : ∃ a, v = [a] := List.length_eq_one_iff.mp h
theorem len2 {v : List Value} {x0 x1 : Nat} (h : v.length = [x0, x1].length) : ∃ a b, v = [a, b] :=
  (lenS h).elim fun a z => z.elim fun r z => (len1 (x0 := x0) z.2).elim fun b y => ⟨a, b, by rw [z.1, y]⟩
theorem len3 {v : List Value} {x0 x1 x2 : Nat} (h : v.length = [x0, x1, x2].length) : ∃ a b c, v = [a, b, c] :=
  (lenS h).elim fun a z => z.elim fun r z => (len2 (x0 := x0) (x1 := x1) z.2).elim fun b y => y.elim fun c y => ⟨a, b, c, by rw [z.1, y]⟩
theorem len4 {v : List Value} {x0 x1 x2 x3 : Nat} (h : v.length = [x0, x1, x2, x3].length) : ∃ a b c d, v = [a, b, c, d] :=
  (lenS h).elim fun a z => z.elim fun r z => (len3 (x0 := x0) (x1 := x1) (x2 := x2) z.2).elim fun b y => y.elim fun c y => y.elim fun d y => ⟨a, b, c, d, by rw [z.1, y]⟩
noncomputable def b8 : St → Option (AF × St) := (cThen (cRet (cCall oQuote (cSeq [(cByt [46, 46]), (cVar 49)]))) cEnd)
theorem s8 (O : Ok C) (P : Pg C) (B : Bn C) {A : Nat → Addr} (D : ∀ j ∈ fnIx, FnAt C (defK j) (A j)) : RefSs C n ⟨(defK 8).scope, true⟩ (defK 8).body (b8) :=
  (RefSs.cons (by exact (RefS.ret (RefE.quote O P (RefL.cons (RefE.byt (by rfl)) (RefL.cons (RefE.var (k := 49) (by decide +kernel)) RefL.nil)) (by decide +kernel) rfl))) RefSs.nil)
noncomputable def f8 : Fn := fnOf [49] b8
theorem r8 (O : Ok C) (P : Pg C) (B : Bn C) {A : Nat → Addr} (D : ∀ j ∈ fnIx, FnAt C (defK j) (A j)) : RefF C (n + 1) (A 8) f8 :=
  RefF.mk O (D 8 (by decide)) (s8 O P B D) (by intro s pm code doc vals h; obtain ⟨a0, rfl⟩ := len1 h; exact BindsTo.of_eq (by kernel_rfl)) (by decide) (by decide) (by decide +kernel) (by decide +kernel) (by decide +kernel) (by decide +kernel) (by decide +kernel)
noncomputable def b13 : St → Option (AF × St) := (cThen (cAsg (aName 16) (cList [])) (cThen (cFor true (cEnum (cVar 1)) (aTup2 9 10) (cThen (cAsg (aName 12) (cCall oMax (cSeq [(cInt 0), (cBin opSubF (cCall oLen (cSeq [(cVar 16)])) (cBin (opP pMod) (cVar 10) (cInt 4)))]))) (cThen (cAsg (aName 17) (cCall f8 (cSeq [(cMeth 3 oBjoin (cByt []) (cSeq [(cSlice (cVar 16) (cVar 12) cNone)]))]))) (cThen (cAsg (aName 16) (cBin opAddF (cSlice (cVar 16) cNone (cVar 12)) (cList [(cBin opAddF (cBin opAddF (cBin opAddF (cByt [46]) (cCall oBytes (cSeq [(cList [(cBin opAddF (cInt 49) (cVar 9))])]))) (cByt [13, 10])) (cVar 17))]))) cEnd)))) (cThen (cRet (cBin opAddF (cByt [46, 48, 13, 10]) (cCall f8 (cSeq [(cMeth 3 oBjoin (cByt []) (cSeq [(cVar 16)]))])))) cEnd)))
theorem s13 (O : Ok C) (P : Pg C) (B : Bn C) {A : Nat → Addr} (D : ∀ j ∈ fnIx, FnAt C (defK j) (A j)) : RefSs C (n + 1) ⟨(defK 13).scope, true⟩ (defK 13).body (b13) :=
  (RefSs.cons (by exact (RefS.asg (RefE.list RefL.nil) ⟨by decide, .inl (by decide +kernel)⟩)) (RefSs.cons (by exact (RefS.for (RefI.enum O (RefE.var (k := 1) (by decide +kernel)) (by decide +kernel) (B.no _ (by decide +kernel))) (.tup _ _ _) (RefA.tup2 ⟨by decide, .inl (by decide +kernel)⟩ ⟨by decide, .inl (by decide +kernel)⟩) (RefSs.cons (by exact (RefS.asg (RefE.callB O oMax_ok (RefL.cons RefE.int (RefL.cons (RefE.subF (RefE.callB O (oLen_ok O) (RefL.cons (RefE.var (k := 16) (by decide +kernel)) RefL.nil) (.b "len") (by decide +kernel) (B.no _ (by decide +kernel)) rfl rfl (by decide)) (RefE.mod (RefE.var (k := 10) (by decide +kernel)) RefE.int)) RefL.nil)) (.b "max") (by decide +kernel) (B.no _ (by decide +kernel)) rfl rfl (by decide)) ⟨by decide, .inl (by decide +kernel)⟩)) (RefSs.cons (by exact (RefS.asg (RefE.callF O (D _ (by decide)) (r8 O P B D) (RefL.cons (RefE.meth (k := 2) oBjoin_ok (RefE.byt (by rfl)) (RefL.cons (RefE.slice (RefE.var (k := 16) (by decide +kernel)) (RefO.some (RefE.var (k := 12) (by decide +kernel))) RefO.none) RefL.nil) FB.plainAttrs_bytes FBj.slot_bytes_join FBj.type_bytes_join rfl) RefL.nil) rfl (by decide +kernel) rfl) ⟨by decide, .inl (by decide +kernel)⟩)) (RefSs.cons (by exact (RefS.asg (RefE.addF (RefE.slice (RefE.var (k := 16) (by decide +kernel)) RefO.none (RefO.some (RefE.var (k := 12) (by decide +kernel)))) (RefE.list (RefL.cons (RefE.addF (RefE.addF (RefE.addF (RefE.byt (by rfl)) (RefE.callB O oBytes_ok (RefL.cons (RefE.list (RefL.cons (RefE.addF RefE.int (RefE.var (k := 9) (by decide +kernel))) RefL.nil)) RefL.nil) (.t "bytes") (by decide +kernel) (B.no _ (by decide +kernel)) rfl rfl (by decide))) (RefE.byt (by rfl))) (RefE.var (k := 17) (by decide +kernel))) RefL.nil))) ⟨by decide, .inl (by decide +kernel)⟩)) RefSs.nil))))) (RefSs.cons (by exact (RefS.ret (RefE.addF (RefE.byt (by rfl)) (RefE.callF O (D _ (by decide)) (r8 O P B D) (RefL.cons (RefE.meth (k := 2) oBjoin_ok (RefE.byt (by rfl)) (RefL.cons (RefE.var (k := 16) (by decide +kernel)) RefL.nil) FB.plainAttrs_bytes FBj.slot_bytes_join FBj.type_bytes_join rfl) RefL.nil) rfl (by decide +kernel) rfl)))) RefSs.nil)))
noncomputable def f13 : Fn := fnOf [1] b13
theorem r13 (O : Ok C) (P : Pg C) (B : Bn C) {A : Nat → Addr} (D : ∀ j ∈ fnIx, FnAt C (defK j) (A j)) : RefF C (n + 2) (A 13) f13 :=
  RefF.mk O (D 13 (by decide)) (s13 O P B D) (by intro s pm code doc vals h; obtain ⟨a0, rfl⟩ := len1 h; exact BindsTo.of_eq (by kernel_rfl)) (by decide) (by decide) (by decide +kernel) (by decide +kernel) (by decide +kernel) (by decide +kernel) (by decide +kernel)
noncomputable def b11 : St → Option (AF × St) := (cThen (cAsg (aName 2) (cBin opAddF (cList [(cNeg (cInt 1))]) (cComp false (cIter (cVar 1)) (aName 10) cYes (cInt 0) []))) (cThen (cAsg (aName 11) (cList [])) (cThen (cFor true (cEnum (cVar 1)) (aTup2 9 10) (cThen (cAsg (aName 12) (cCall oMax (cSeq [(cInt 0), (cBin opSubF (cCall oLen (cSeq [(cVar 11)])) (cBin (opP pMod) (cVar 10) (cInt 4)))]))) (cThen (cFor false (cIter (cSlice (cVar 11) (cVar 12) cNone)) (aName 13) (cThen (cPut (cBin opAddF (cVar 9) (cInt 1)) (cVar 2) (cVar 13)) cEnd)) (cThen (cAsg (aName 11) (cBin opAddF (cSlice (cVar 11) cNone (cVar 12)) (cList [(cBin opAddF (cVar 9) (cInt 1))]))) cEnd)))) (cThen (cRet (cVar 2)) cEnd))))
theorem s11 (O : Ok C) (P : Pg C) (B : Bn C) {A : Nat → Addr} (D : ∀ j ∈ fnIx, FnAt C (defK j) (A j)) : RefSs C n ⟨(defK 11).scope, true⟩ (defK 11).body (b11) :=
  (RefSs.cons (by exact (RefS.asg (RefE.addF (RefE.list (RefL.cons (RefE.neg RefE.int) RefL.nil)) (RefE.comp (RefI.val O (RefE.var (k := 1) (by decide +kernel))) (.name _ _) (fr := []) ⟨by decide +kernel, by decide +kernel, by decide +kernel, by decide +kernel, rfl, by decide +kernel, by decide +kernel, by decide +kernel, by decide⟩ (RefA.name ⟨by decide, .inl (by decide +kernel)⟩) RefTs.nil RefE.int)) ⟨by decide, .inl (by decide +kernel)⟩)) (RefSs.cons (by exact (RefS.asg (RefE.list RefL.nil) ⟨by decide, .inl (by decide +kernel)⟩)) (RefSs.cons (by exact (RefS.for (RefI.enum O (RefE.var (k := 1) (by decide +kernel)) (by decide +kernel) (B.no _ (by decide +kernel))) (.tup _ _ _) (RefA.tup2 ⟨by decide, .inl (by decide +kernel)⟩ ⟨by decide, .inl (by decide +kernel)⟩) (RefSs.cons (by exact (RefS.asg (RefE.callB O oMax_ok (RefL.cons RefE.int (RefL.cons (RefE.subF (RefE.callB O (oLen_ok O) (RefL.cons (RefE.var (k := 11) (by decide +kernel)) RefL.nil) (.b "len") (by decide +kernel) (B.no _ (by decide +kernel)) rfl rfl (by decide)) (RefE.mod (RefE.var (k := 10) (by decide +kernel)) RefE.int)) RefL.nil)) (.b "max") (by decide +kernel) (B.no _ (by decide +kernel)) rfl rfl (by decide)) ⟨by decide, .inl (by decide +kernel)⟩)) (RefSs.cons (by exact (RefS.for (RefI.val O (RefE.slice (RefE.var (k := 11) (by decide +kernel)) (RefO.some (RefE.var (k := 12) (by decide +kernel))) RefO.none)) (.name _ _) (RefA.name ⟨by decide, .inl (by decide +kernel)⟩) (RefSs.cons (by exact (RefS.put (RefE.addF (RefE.var (k := 9) (by decide +kernel)) RefE.int) (RefE.var (k := 2) (by decide +kernel)) (RefE.var (k := 13) (by decide +kernel)))) RefSs.nil))) (RefSs.cons (by exact (RefS.asg (RefE.addF (RefE.slice (RefE.var (k := 11) (by decide +kernel)) RefO.none (RefO.some (RefE.var (k := 12) (by decide +kernel)))) (RefE.list (RefL.cons (RefE.addF (RefE.var (k := 9) (by decide +kernel)) RefE.int) RefL.nil))) ⟨by decide, .inl (by decide +kernel)⟩)) RefSs.nil))))) (RefSs.cons (by exact (RefS.ret (RefE.var (k := 2) (by decide +kernel)))) RefSs.nil))))
noncomputable def f11 : Fn := fnOf [1] b11
theorem r11 (O : Ok C) (P : Pg C) (B : Bn C) {A : Nat → Addr} (D : ∀ j ∈ fnIx, FnAt C (defK j) (A j)) : RefF C (n + 1) (A 11) f11 :=
  RefF.mk O (D 11 (by decide)) (s11 O P B D) (by intro s pm code doc vals h; obtain ⟨a0, rfl⟩ := len1 h; exact BindsTo.of_eq (by kernel_rfl)) (by decide) (by decide) (by decide +kernel) (by decide +kernel) (by decide +kernel) (by decide +kernel) (by decide +kernel)
noncomputable def b12 (rec : Fn) : St → Option (AF × St) := (cThen (cAsg (aName 15) (cList [(cBin opAddF (cVar 14) (cStr [10]))])) (cThen (cFor false (cRange2 (cInt 1) (cCall oLen (cSeq [(cVar 2)]))) (aName 9) (cThen (cIf (cCmp oEqF (cItemF (cVar 2) (cVar 9)) (cVar 13)) (cThen (cExpr (cMeth 1 oExtend (cVar 15) (cSeq [(cCall rec (cSeq [(cVar 9), (cBin opAddF (cBin opAddF (cVar 14) (cStr [46])) (cCall oStr (cSeq [(cVar 9)]))), (cVar 2)]))]))) cEnd) cEnd) cEnd)) (cThen (cRet (cVar 15)) cEnd)))
theorem s12 (O : Ok C) (P : Pg C) (B : Bn C) {A : Nat → Addr} (D : ∀ j ∈ fnIx, FnAt C (defK j) (A j)) {rec : Fn} (R : RefF C n (A 12) rec) : RefSs C n ⟨(defK 12).scope, true⟩ (defK 12).body (b12 rec) :=
  (RefSs.cons (by exact (RefS.asg (RefE.list (RefL.cons (RefE.addF (RefE.var (k := 14) (by decide +kernel)) (RefE.str (by decide +kernel))) RefL.nil)) ⟨by decide, .inl (by decide +kernel)⟩)) (RefSs.cons (by exact (RefS.for (RefI.range2 O RefE.int (RefE.callB O (oLen_ok O) (RefL.cons (RefE.var (k := 2) (by decide +kernel)) RefL.nil) (.b "len") (by decide +kernel) (B.no _ (by decide +kernel)) rfl rfl (by decide)) (by decide +kernel) (B.no _ (by decide +kernel))) (.name _ _) (RefA.name ⟨by decide, .inl (by decide +kernel)⟩) (RefSs.cons (by exact (RefS.ite (RefB.cmp oEqF_ok (RefE.itemF (RefE.var (k := 2) (by decide +kernel)) (RefE.var (k := 9) (by decide +kernel))) (RefE.var (k := 13) (by decide +kernel)) rfl) (RefSs.cons (by exact (RefS.expr (RefE.meth (k := 0) oExtend_ok (RefE.var (k := 15) (by decide +kernel)) (RefL.cons (RefE.callF O (D _ (by decide)) R (RefL.cons (RefE.var (k := 9) (by decide +kernel)) (RefL.cons (RefE.addF (RefE.addF (RefE.var (k := 14) (by decide +kernel)) (RefE.str (by decide +kernel))) (RefE.callB O oStr_ok (RefL.cons (RefE.var (k := 9) (by decide +kernel)) RefL.nil) (.t "str") (by decide +kernel) (B.no _ (by decide +kernel)) rfl rfl (by decide))) (RefL.cons (RefE.var (k := 2) (by decide +kernel)) RefL.nil))) rfl (by decide +kernel) rfl) RefL.nil) F.plainAttrs_list F.slot_list_extend F.type_list_extend rfl) (by intro env h; unfold interactive; rw [h]; rfl))) RefSs.nil) RefSs.nil)) RefSs.nil))) (RefSs.cons (by exact (RefS.ret (RefE.var (k := 15) (by decide +kernel)))) RefSs.nil)))
noncomputable def f12 : Nat → Fn
  | 0 => fun _ _ => none
  | k + 1 => fnOf [13, 14, 2] (b12 (f12 k))
theorem q12 (O : Ok C) (P : Pg C) (B : Bn C) {A : Nat → Addr} (D : ∀ j ∈ fnIx, FnAt C (defK j) (A j)) {rec : Fn} (R : RefF C n (A 12) rec) : RefF C (n + 1) (A 12) (fnOf [13, 14, 2] (b12 rec)) :=
  RefF.mk O (D 12 (by decide)) (s12 O P B D R) (by intro s pm code doc vals h; obtain ⟨a0, a1, a2, rfl⟩ := len3 h; exact BindsTo.of_eq (by kernel_rfl)) (by decide) (by decide) (by decide +kernel) (by decide +kernel) (by decide +kernel) (by decide +kernel) (by decide +kernel)
theorem r12 (O : Ok C) (P : Pg C) (B : Bn C) {A : Nat → Addr} (D : ∀ j ∈ fnIx, FnAt C (defK j) (A j)) : ∀ k, RefF C (n + k) (A 12) (f12 k)
  | 0 => fun _ _ _ _ _ _ _ _ _ _ _ _ e => by cases e
  | k + 1 => q12 O P B D (r12 O P B D k)
noncomputable def b16 (rec : Fn) : St → Option (AF × St) := (cThen (cAsg (aName 6) (cList [])) (cThen (cFor false (cIter (cItemF (cVar 5) (cVar 26))) (aName 13) (cThen (cExpr (cMeth 1 oExtend (cVar 6) (cSeq [(cCall rec (cSeq [(cVar 13), (cVar 5)]))]))) cEnd)) (cThen (cRet (cBin opAddF (cVar 6) (cList [(cVar 26)]))) cEnd)))
theorem s16 (O : Ok C) (P : Pg C) (B : Bn C) {A : Nat → Addr} (D : ∀ j ∈ fnIx, FnAt C (defK j) (A j)) {rec : Fn} (R : RefF C n (A 16) rec) : RefSs C n ⟨(defK 16).scope, true⟩ (defK 16).body (b16 rec) :=
  (RefSs.cons (by exact (RefS.asg (RefE.list RefL.nil) ⟨by decide, .inl (by decide +kernel)⟩)) (RefSs.cons (by exact (RefS.for (RefI.val O (RefE.itemF (RefE.var (k := 5) (by decide +kernel)) (RefE.var (k := 26) (by decide +kernel)))) (.name _ _) (RefA.name ⟨by decide, .inl (by decide +kernel)⟩) (RefSs.cons (by exact (RefS.expr (RefE.meth (k := 0) oExtend_ok (RefE.var (k := 6) (by decide +kernel)) (RefL.cons (RefE.callF O (D _ (by decide)) R (RefL.cons (RefE.var (k := 13) (by decide +kernel)) (RefL.cons (RefE.var (k := 5) (by decide +kernel)) RefL.nil)) rfl (by decide +kernel) rfl) RefL.nil) F.plainAttrs_list F.slot_list_extend F.type_list_extend rfl) (by intro env h; unfold interactive; rw [h]; rfl))) RefSs.nil))) (RefSs.cons (by exact (RefS.ret (RefE.addF (RefE.var (k := 6) (by decide +kernel)) (RefE.list (RefL.cons (RefE.var (k := 26) (by decide +kernel)) RefL.nil))))) RefSs.nil)))
noncomputable def f16 : Nat → Fn
  | 0 => fun _ _ => none
  | k + 1 => fnOf [26, 5] (b16 (f16 k))
theorem q16 (O : Ok C) (P : Pg C) (B : Bn C) {A : Nat → Addr} (D : ∀ j ∈ fnIx, FnAt C (defK j) (A j)) {rec : Fn} (R : RefF C n (A 16) rec) : RefF C (n + 1) (A 16) (fnOf [26, 5] (b16 rec)) :=
  RefF.mk O (D 16 (by decide)) (s16 O P B D R) (by intro s pm code doc vals h; obtain ⟨a0, a1, rfl⟩ := len2 h; exact BindsTo.of_eq (by kernel_rfl)) (by decide) (by decide) (by decide +kernel) (by decide +kernel) (by decide +kernel) (by decide +kernel) (by decide +kernel)
theorem r16 (O : Ok C) (P : Pg C) (B : Bn C) {A : Nat → Addr} (D : ∀ j ∈ fnIx, FnAt C (defK j) (A j)) : ∀ k, RefF C (n + k) (A 16) (f16 k)
  | 0 => fun _ _ _ _ _ _ _ _ _ _ _ _ e => by cases e
  | k + 1 => q16 O P B D (r16 O P B D k)
noncomputable def b19 : St → Option (AF × St) := (cThen (cAsg (aName 35) (cList [])) (cThen (cFor false (cRange1 (cCall oLen (cSeq [(cVar 2)]))) (aName 13) (cThen (cAsg (aName 36) (cComp false (cRange1 (cCall oLen (cSeq [(cVar 2)]))) (aName 9) (cCmp oEqF (cItemF (cVar 2) (cVar 9)) (cVar 13)) (cBin (opP pPow) (cInt 2) (cVar 9)) [2, 13])) (cThen (cExpr (cMeth 1 oAppend (cVar 35) (cSeq [(cTup [(cBin (opP pPow) (cInt 2) (cVar 13)), (cCall oSum (cSeq [(cVar 36)])), (cCall oLen (cSeq [(cVar 36)]))])]))) cEnd))) (cThen (cAsg (aName 37) (cDict1 (cInt 0) (cTup [(cInt 0), (cInt 0)]))) (cThen (cFor false (cIter (cVar 35)) (aName 33) (cThen (cAsg (aName 38) cDictI) (cThen (cFor false (cIter (cVar 37)) (aName 39) (cThen (cAsg (aTup2 40 30) (cItemF (cVar 37) (cVar 39))) (cThen (cFor true (cIter (cVar 35)) (aTup3 41 42 43) (cThen (cIf (cAndB (cNotB (cTrF (cBin opAndF (cVar 39) (cVar 41)))) (cCmp oEqF (cBin opAndF (cVar 39) (cVar 42)) (cVar 42))) (cThen (cAsg (aName 44) (cBin opAddF (cBin opSubF (cVar 30) (cVar 43)) (cInt 1))) (cThen (cAsg (aName 45) (cCall oMax (cSeq [(cVar 40), (cVar 44)]))) (cThen (cIf (cOrB (cCmp oNotIn (cBin opAddF (cVar 39) (cVar 41)) (cVar 38)) (cCmp oLtF (cVar 45) (cItemF (cItemF (cVar 38) (cBin opAddF (cVar 39) (cVar 41))) (cInt 0)))) (cThen (cPut (cTup [(cVar 45), (cVar 44)]) (cVar 38) (cBin opAddF (cVar 39) (cVar 41))) cEnd) cEnd) cEnd))) cEnd) cEnd)) cEnd))) (cThen (cAsg (aName 37) (cVar 38)) cEnd)))) (cThen (cRet (cItemF (cItemF (cVar 37) (cBin opSubF (cBin (opP pPow) (cInt 2) (cCall oLen (cSeq [(cVar 2)]))) (cInt 1))) (cInt 0))) cEnd)))))
theorem s19 (O : Ok C) (P : Pg C) (B : Bn C) {A : Nat → Addr} (D : ∀ j ∈ fnIx, FnAt C (defK j) (A j)) : RefSs C n ⟨(defK 19).scope, true⟩ (defK 19).body (b19) :=
  (RefSs.cons (by exact (RefS.asg (RefE.list RefL.nil) ⟨by decide, .inl (by decide +kernel)⟩)) (RefSs.cons (by exact (RefS.for (RefI.range1 O (RefE.callB O (oLen_ok O) (RefL.cons (RefE.varC (k := 2) (by decide +kernel)) RefL.nil) (.b "len") (by decide +kernel) (B.no _ (by decide +kernel)) rfl rfl (by decide)) (by decide +kernel) (B.no _ (by decide +kernel))) (.name _ _) (RefA.name ⟨by decide, .inr ⟨by decide +kernel, rfl⟩⟩) (RefSs.cons (by exact (RefS.asgComp (RefI.range1 O (RefE.callB O (oLen_ok O) (RefL.cons (RefE.varC (k := 2) (by decide +kernel)) RefL.nil) (.b "len") (by decide +kernel) (B.no _ (by decide +kernel)) rfl rfl (by decide)) (by decide +kernel) (B.no _ (by decide +kernel))) (.name _ _) (fr := [2, 13]) ⟨by decide +kernel, by decide +kernel, by decide +kernel, by decide +kernel, rfl, by decide +kernel, by decide +kernel, by decide +kernel, by decide⟩ (RefA.name ⟨by decide, .inl (by decide +kernel)⟩) (RefTs.one (RefB.cmp oEqF_ok (RefE.itemF (RefE.varC (k := 2) (by decide +kernel)) (RefE.var (k := 9) (by decide +kernel))) (RefE.varC (k := 13) (by decide +kernel)) rfl)) (RefE.pow RefE.int (RefE.var (k := 9) (by decide +kernel))) ⟨by decide, .inl (by decide +kernel)⟩ (by intro env h; exact swaps_of h (by decide +kernel) (by decide +kernel)))) (RefSs.cons (by exact (RefS.expr (RefE.meth (k := 0) oAppend_ok (RefE.var (k := 35) (by decide +kernel)) (RefL.cons (RefE.tup (RefL.cons (RefE.pow RefE.int (RefE.varC (k := 13) (by decide +kernel))) (RefL.cons (RefE.callB O oSum_ok (RefL.cons (RefE.var (k := 36) (by decide +kernel)) RefL.nil) (.b "sum") (by decide +kernel) (B.no _ (by decide +kernel)) rfl rfl (by decide)) (RefL.cons (RefE.callB O (oLen_ok O) (RefL.cons (RefE.var (k := 36) (by decide +kernel)) RefL.nil) (.b "len") (by decide +kernel) (B.no _ (by decide +kernel)) rfl rfl (by decide)) RefL.nil)))) RefL.nil) F.plainAttrs_list F.slot_list_append F.type_list_append rfl) (by intro env h; unfold interactive; rw [h]; rfl))) RefSs.nil)))) (RefSs.cons (by exact (RefS.asg (RefE.dict1 RefE.int (RefE.tup (RefL.cons RefE.int (RefL.cons RefE.int RefL.nil)))) ⟨by decide, .inl (by decide +kernel)⟩)) (RefSs.cons (by exact (RefS.for (RefI.val O (RefE.var (k := 35) (by decide +kernel))) (.name _ _) (RefA.name ⟨by decide, .inl (by decide +kernel)⟩) (RefSs.cons (by exact (RefS.asg RefE.dictI ⟨by decide, .inl (by decide +kernel)⟩)) (RefSs.cons (by exact (RefS.for (RefI.val O (RefE.var (k := 37) (by decide +kernel))) (.name _ _) (RefA.name ⟨by decide, .inl (by decide +kernel)⟩) (RefSs.cons (by exact (RefS.asgT (RefE.itemF (RefE.var (k := 37) (by decide +kernel)) (RefE.var (k := 39) (by decide +kernel))) (RefA.tup2 ⟨by decide, .inl (by decide +kernel)⟩ ⟨by decide, .inl (by decide +kernel)⟩))) (RefSs.cons (by exact (RefS.for (RefI.val O (RefE.var (k := 35) (by decide +kernel))) (.tup _ _ _) (RefA.tup3 ⟨by decide, .inl (by decide +kernel)⟩ ⟨by decide, .inl (by decide +kernel)⟩ ⟨by decide, .inl (by decide +kernel)⟩) (RefSs.cons (by exact (RefS.ite (RefB.and (RefB.not (RefB.valF (RefE.bandF (RefE.var (k := 39) (by decide +kernel)) (RefE.var (k := 41) (by decide +kernel))))) (RefB.cmp oEqF_ok (RefE.bandF (RefE.var (k := 39) (by decide +kernel)) (RefE.var (k := 42) (by decide +kernel))) (RefE.var (k := 42) (by decide +kernel)) rfl)) (RefSs.cons (by exact (RefS.asg (RefE.addF (RefE.subF (RefE.var (k := 30) (by decide +kernel)) (RefE.var (k := 43) (by decide +kernel))) RefE.int) ⟨by decide, .inl (by decide +kernel)⟩)) (RefSs.cons (by exact (RefS.asg (RefE.callB O oMax_ok (RefL.cons (RefE.var (k := 40) (by decide +kernel)) (RefL.cons (RefE.var (k := 44) (by decide +kernel)) RefL.nil)) (.b "max") (by decide +kernel) (B.no _ (by decide +kernel)) rfl rfl (by decide)) ⟨by decide, .inl (by decide +kernel)⟩)) (RefSs.cons (by exact (RefS.ite (RefB.or (RefB.cmp (oNotIn_ok O) (RefE.addF (RefE.var (k := 39) (by decide +kernel)) (RefE.var (k := 41) (by decide +kernel))) (RefE.var (k := 38) (by decide +kernel)) rfl) (RefB.cmp oLtF_ok (RefE.var (k := 45) (by decide +kernel)) (RefE.itemF (RefE.itemF (RefE.var (k := 38) (by decide +kernel)) (RefE.addF (RefE.var (k := 39) (by decide +kernel)) (RefE.var (k := 41) (by decide +kernel)))) RefE.int) rfl)) (RefSs.cons (by exact (RefS.put (RefE.tup (RefL.cons (RefE.var (k := 45) (by decide +kernel)) (RefL.cons (RefE.var (k := 44) (by decide +kernel)) RefL.nil))) (RefE.var (k := 38) (by decide +kernel)) (RefE.addF (RefE.var (k := 39) (by decide +kernel)) (RefE.var (k := 41) (by decide +kernel))))) RefSs.nil) RefSs.nil)) RefSs.nil))) RefSs.nil)) RefSs.nil))) RefSs.nil)))) (RefSs.cons (by exact (RefS.asg (RefE.var (k := 38) (by decide +kernel)) ⟨by decide, .inl (by decide +kernel)⟩)) RefSs.nil))))) (RefSs.cons (by exact (RefS.ret (RefE.itemF (RefE.itemF (RefE.var (k := 37) (by decide +kernel)) (RefE.subF (RefE.pow RefE.int (RefE.callB O (oLen_ok O) (RefL.cons (RefE.varC (k := 2) (by decide +kernel)) RefL.nil) (.b "len") (by decide +kernel) (B.no _ (by decide +kernel)) rfl rfl (by decide))) RefE.int)) RefE.int))) RefSs.nil)))))
noncomputable def f19 : Fn := fnOf [2] b19
theorem r19 (O : Ok C) (P : Pg C) (B : Bn C) {A : Nat → Addr} (D : ∀ j ∈ fnIx, FnAt C (defK j) (A j)) : RefF C (n + 1) (A 19) f19 :=
  RefF.mkC O (D 19 (by decide)) (s19 O P B D) (by intro pm code doc val; kernel_rfl) (by decide) (by first | exact .inl (by decide +kernel) | exact .inr (by decide +kernel)) (by decide +kernel) (by decide +kernel) (by decide +kernel) (by decide +kernel) (by decide +kernel)
end
end Mine
end
end
section
set_option maxRecDepth 100000
set_option maxHeartbeats 0
set_option autoImplicit false
set_option genSizeOf false
set_option genInjectivity false
set_option linter.unusedVariables false
noncomputable section
namespace Mine
open PySem PySem.W PyProof.Rows
/-! the facts of the pieces: all 729 choices, by the kernel -/
noncomputable def csAll : Nat → List (List Nat)
  | 0 => [[]]
  | k + 1 => (csAll k).flatMap fun l => [0 :: l, 1 :: l, 2 :: l]
theorem csAll_mem : ∀ (k : Nat) (l : List Nat), l.length = k → (∀ x ∈ l, x < 3) → l ∈ csAll k
  | 0, [], _, _ => by simp [csAll]
  | k + 1, x :: l, h, hx => by
    have ih := csAll_mem k l (by simpa using h) fun y hy => hx y (.tail _ hy)
    have h3 := hx x (.head _)
    refine List.mem_flatMap.mpr ⟨l, ih, ?_⟩
    have : x = 0 ∨ x = 1 ∨ x = 2 := by omega
    rcases this with rfl | rfl | rfl <;> simp
theorem pcS_take (cs : List Nat) (m : Nat) : ∀ j, j < m → pcS (cs.take (m - 1)) j = pcS cs j
  | 0, _ => rfl
  | k + 1, h => by
    show pieceS ((cs.take (m - 1)).getD k 0) = pieceS (cs.getD k 0)
    rw [List.getD_eq_getElem?_getD, List.getD_eq_getElem?_getD, List.getElem?_take_of_lt (by omega)]
theorem runsOf_take (cs : List Nat) (m : Nat) : ∀ d, d ≤ m → runsOf (cs.take (m - 1)) d = runsOf cs d
  | 0, _ => rfl
  | d + 1, h => by
    unfold runsOf
    rw [runsOf_take cs m d (by omega), pcS_take cs m d (by omega)]
theorem leadS_take (cs : List Nat) (m : Nat) : ∀ d, d ≤ m → leadS (cs.take (m - 1)) d = leadS cs d
  | 0, _ => rfl
  | d + 1, h => by
    unfold leadS
    rw [leadS_take cs m d (by omega), pcS_take cs m d (by omega)]
noncomputable def csGood (cs : List Nat) (d : Nat) : Bool :=
  (d == 0 || ((occL (leadS cs d) [9]).length != 0 && splitL (leadS cs d) [9] == rkS cs (.runs d false))) &&
  (Nat.ble (totLen (rkS cs (.runs d false))) 50 && Nat.ble (rkS cs (.runs d false)).length 50 && Nat.ble (leadS cs d).length 50)
theorem csGood_take (cs : List Nat) (d : Nat) : csGood (cs.take (d - 1)) d = csGood cs d := by
  have e : rkS (cs.take (d - 1)) (.runs d false) = rkS cs (.runs d false) := by
    show initS _ d false ++ [lastS _ d] = initS _ d false ++ [lastS _ d]
    unfold initS lastS
    rw [runsOf_take cs d d (Nat.le_refl d)]
  unfold csGood
  rw [leadS_take cs d d (Nat.le_refl d), e]
theorem csGood_all : ∀ d, d ≤ 7 → (csAll (d - 1)).all (fun cs => csGood cs d) = true
  | 0, _ => by decide +kernel
  | 1, _ => by decide +kernel
  | 2, _ => by decide +kernel
  | 3, _ => by decide +kernel
  | 4, _ => by decide +kernel
  | 5, _ => by decide +kernel
  | 6, _ => by decide +kernel
  | 7, _ => by decide +kernel
  | _ + 8, h => by omega
theorem csOk_of {cs : List Nat} (hl : cs.length = 6) (hx : ∀ x ∈ cs, x < 3) : CsOk cs := by
  have hd : ∀ d, d ≤ 7 → csGood cs d = true := fun d hd => by
    rw [← csGood_take]
    exact List.all_eq_true.mp (csGood_all d hd) _ (csAll_mem _ _ (by rw [List.length_take]; omega) fun x q => hx x (List.mem_of_mem_take q))
  refine ⟨fun d h1 h7 => ?_, fun d h7 => ?_⟩
  · have := hd d h7
    simp only [csGood, Bool.and_eq_true, Bool.or_eq_true, beq_iff_eq, bne_iff_ne] at this
    rcases this.1 with q | q
    · omega
    · exact q
  · have := hd d h7
    simp only [csGood, Bool.and_eq_true, Nat.ble_eq] at this
    exact ⟨this.2.1.1, this.2.1.2, this.2.2⟩
end Mine
end
end
section
set_option maxRecDepth 100000
set_option maxHeartbeats 0
set_option linter.unusedVariables false
set_option linter.unusedSectionVars false
set_option autoImplicit false
set_option genSizeOf false
set_option genInjectivity false
noncomputable section
namespace Mine
open PySem PySem.W PyProof.Rows
/-! IPV4_RE.search at the addresses -/
noncomputable def v4Code : Array Nat := #[14, 8, 1, 2, 4294967295, 1, 1, 46, 0, 16, 46, 24, 9, 1, 4294967295, 13, 4, 8, 0, 0, 1, 6, 5, 1]
noncomputable def v4Run (s : List Nat) : Sre.M := stepN 120 (Sre.forSearch v4Code s.toArray 0 0 s.length false)
/-- what follows the 0: falling figures up to k, each behind a dot, and a line feed -/
noncomputable def tails : Nat → List (List Nat)
  | 0 => [[10]]
  | k + 1 => tails k ++ (tails k).map fun t => 46 :: (49 + k) :: t
noncomputable def pathT : Nat → List Nat → Bool
  | 0, l => eqL l [10]
  | k + 1, l => match l with
    | 46 :: d :: t => match Nat.beq d (49 + k) with
      | true => pathT k t
      | false => pathT k (46 :: d :: t)
    | l => pathT k l
theorem pathT_mem : ∀ (k : Nat) (l : List Nat), pathT k l = true → l ∈ tails k
  | 0, l, h => by
    have : l = [10] := by rw [show pathT 0 l = eqL l [10] from rfl, eqL_eq] at h; simpa using h
    simp [tails, this]
  | k + 1, l, h => by
    unfold pathT at h
    unfold tails
    rw [List.mem_append]
    split at h
    · rename_i d t
      split at h
      · rename_i q
        right
        rw [Nat.eq_of_beq_eq_true q]
        exact List.mem_map.mpr ⟨t, pathT_mem k t h, rfl⟩
      · exact .inl (pathT_mem k _ h)
    · exact .inl (pathT_mem k _ h)
noncomputable def addrOk (s : List Nat) : Bool := match s with
  | 48 :: t => pathT 6 t
  | _ => false
noncomputable def v4Good (s : List Nat) : Bool := match (v4Run s).outcome with
  | some .matched => Nat.blt 2 s.length && Nat.beq ((v4Run s).start + 3) s.length && Nat.beq ((v4Run s).handed + 1) s.length
  | some .failed => Nat.beq s.length 2
  | _ => false
theorem v4_all : (tails 6).all (fun t => v4Good (48 :: t)) = true := by decide +kernel
theorem v4_of {s : List Nat} (h : addrOk s = true) : v4Good s = true := by
  unfold addrOk at h
  split at h
  · rename_i t
    exact List.all_eq_true.mp v4_all t (pathT_mem 6 t h)
  · cases h
end Mine
end
end
section
set_option maxRecDepth 100000
set_option maxHeartbeats 0
set_option linter.unusedVariables false
set_option linter.unusedSectionVars false
set_option autoImplicit false
set_option genSizeOf false
set_option genInjectivity false
noncomputable section
namespace Mine
open PySem PySem.W PyProof.Rows
structure Pat4 (h : Heap) (x : Addr) : Prop where
  o : ∃ b t1 t2 t3 t5 y, h.get? x = some { cls := .type "re.Pattern", data := .fields #[.str b t1, .int 256 t2, .int 0 t3, .none, .none, .ref y, .int 0 t5] } ∧
    h.get? y = some { cls := .type "tuple", data := .seq #[.int 14 0, .int 8 0, .int 1 0, .int 2 0, .int 4294967295 0, .int 1 0, .int 1 0, .int 46 0, .int 0 0, .int 16 0, .int 46 0, .int 24 0, .int 9 0, .int 1 0, .int 4294967295 0, .int 13 0, .int 4 0, .int 8 0, .int 0 0, .int 0 0, .int 1 0, .int 6 0, .int 5 0, .int 1 0] }
theorem Pat4.move {h h' : Heap} {x : Addr} (p : Pat4 h x) (k : ∀ b o, h.get? b = some o → h'.get? b = some o) : Pat4 h' x :=
by
  obtain ⟨b, t1, t2, t3, t5, y, e1, e2⟩ := p.o
  exact ⟨b, t1, t2, t3, t5, y, k _ _ e1, k _ _ e2⟩
section
variable {M : Model} {A : Around} {E : Value → Shared → Prop} {s : Shared}
theorem named_search (a : Value) : Builtin.Re.reNamed "re.Pattern.search" "search" ["string", "pos", "endpos"] 1 [a] [] = pure [some a, none, none] := by
  kernel_rfl
theorem slot_search : Slot "re.Pattern" "search" "re.Pattern.search" :=
  .of (owner := "re.Pattern") (n := "search") (by rw [typeLookup_type, builtinLookup_eq_fast]; kernel_rfl) (by decide +kernel) (by decide +kernel) (by decide +kernel)
    (by first | exact .inl (by decide +kernel) | exact .inr (by decide +kernel)) (by rw [isSubtype_type]; kernel_rfl)
theorem type_search : typeOf (.builtin "re.Pattern.search") = pure (.type "method_descriptor") := by show builtinType _ = _; rw [builtinType_eq_fast]; kernel_rfl
theorem entry_search : entryFor table "re.Pattern.search" = some Builtin.«re.Pattern.search» := entryFor_of_tree (by kernel_rfl)
theorem args_search (a b : Value) : argsOk "re.Pattern.search" ⟨[a, b], []⟩ := by
  unfold argsOk
  kernel_rfl
theorem toEnd4_ok {k : Nat} {m m' : Sre.M} {Q : Option Sre.M → Shared → Prop} (hk : stepN k m = m') (hl : k ≤ 4 * 2 ^ 64) (hQ : (m'.outcome = some .matched ∧ Q (some m') s) ∨ (m'.outcome = some .failed ∧ Q none s)) :
    wpAny M A (Builtin.Re.reRunToEnd m) Q E s := by
  unfold Builtin.Re.reRunToEnd
  have ho : m'.outcome.isSome = true := by
    rcases hQ with ⟨h, _⟩ | ⟨h, _⟩ <;> rw [h] <;> rfl
  refine wpAny_bind (drive_ok _ k m m' _ hk ho hl (by decide) ?_)
  refine rules_ok m' _ _ _ ?_
  rcases hQ with ⟨h, q⟩ | ⟨h, q⟩ <;> rw [h] <;> exact wpAny_pure q
end
section
variable {C : Cx}
theorem target_ok {A : Around} {E : Value → Shared → Prop} {s : Shared} {x : Addr} {b : List Nat} {t : Tok} {Q : Builtin.Re.ReTarget → Shared → Prop} (p : Pat4 s.heap x) (hb : b.length < 2 ^ 63)
    (h : Q ⟨.ref x, .str ⟨b.toArray⟩ t, v4Code, b.toArray, 0, 0, 0, b.length⟩ s) : wpAny (model prog C.w) A (Builtin.Re.reTarget "re.Pattern.search" "search" ⟨[.ref x, .str ⟨b.toArray⟩ t], []⟩) Q E s := by
  obtain ⟨pb, t1, t2, t3, t5, y, e1, e2⟩ := p.o
  unfold Builtin.Re.reTarget
  dsimp only
  refine wpAny_bind (wpAny_of_eq (named_search _) ?_)
  dsimp only
  refine wpAny_bind (wpAny_pure ?_)
  refine wpAny_bind (wpAny_pure ?_)
  refine wpAny_bind (wpAny_fieldsOf e1 rfl ?_)
  refine wpAny_bind ?_
  unfold Builtin.Re.reTextOf
  refine wpAny_bind (wpAny_of_eq (a := some ⟨b.toArray⟩) rfl ?_)
  refine wpAny_pure ?_
  dsimp only
  rw [if_neg (by exact Bool.false_ne_true), if_neg (by exact Bool.false_ne_true)]
  refine wpAny_bind ?_
  unfold Builtin.Re.reNoCollectionInside
  rw [if_neg (by decide)]
  refine wpAny_pure ?_
  refine wpAny_bind ?_
  unfold Builtin.Re.reRawItems
  refine wpAny_bind (wpAny_seqItems e2 rfl ?_)
  refine wpAny_pure (wpAny_pure ?_)
  have e : (((some #[.int 14 0, .int 8 0, .int 1 0, .int 2 0, .int 4294967295 0, .int 1 0, .int 1 0, .int 46 0, .int 0 0, .int 16 0, .int 46 0, .int 24 0, .int 9 0, .int 1 0, .int 4294967295 0, .int 13 0, .int 4 0, .int 8 0, .int 0 0, .int 0 0, .int 1 0, .int 6 0, .int 5 0, .int 1 0] : Option (Array Value)).getD #[]).map Builtin.Re.reRawOf).map (fun x => x.toNat) = v4Code := by decide +kernel
  rw [e]
  have e3 : min (Int.toNat 0) b.toArray.size = 0 := by simp
  have e4 : min (Int.toNat (2 ^ 63 - 1)) b.toArray.size = b.length := by
    rw [show Int.toNat (2 ^ 63 - 1) = 2 ^ 63 - 1 by decide]
    simp only [List.size_toArray]
    omega
  rw [e3, e4]
  exact h
theorem search_ok {A : Around} {E : Value → Shared → Prop} {b : List Nat} (hb : addrOk b = true) (hl : b.length ≤ 2000) {s : Shared} {x : Addr} {tb : Tok} {Q : Value → Shared → Prop} (P : Pat4 s.heap x)
    (K0 : b.length = 2 → Q .none s)
    (K1 : 2 < b.length → ∀ li, Q (.ref (s.heap.objs.size + 1)) { s with heap := (s.heap.push { cls := .type "tuple", data := .seq #[rawInt (b.length - 3 : Nat), rawInt (b.length - 1 : Nat)] }).push { cls := .type "re.Match", data := .fields #[.str ⟨b.toArray⟩ tb, .ref x, rawInt 0, rawInt b.length, rawInt li, .ref s.heap.objs.size] } }) :
    wpAny (model prog C.w) A (call (.builtin "re.Pattern.search") [.ref x, .str ⟨b.toArray⟩ tb]) Q E s := by
  have hx : s.TypeIs (.ref x) "re.Pattern" := by
    obtain ⟨pb, t1, t2, t3, t5, y, e1, e2⟩ := P.o
    exact ⟨_, e1, rfl⟩
  refine wpAny_call (codeAny_call_builtin slot_search.plain entry_search (slot_search.check _ _ _ _ _ _ _ _ hx (args_search _ _) ?_))
  unfold Builtin.«re.Pattern.search»
  refine wpAny_bind (target_ok P (by omega) ?_)
  unfold Builtin.Re.reAnswer
  dsimp only
  refine wpAny_bind ?_
  have g := v4_of hb
  unfold v4Good at g
  refine toEnd4_ok (k := 120) (m' := v4Run b) rfl (by decide) ?_
  split at g
  · rename_i q
    left
    refine ⟨q, ?_⟩
    simp only [Bool.and_eq_true, Nat.beq_eq, Store.blt_eq, decide_eq_true_eq] at g
    obtain ⟨⟨g0, g1⟩, g2⟩ := g
    dsimp only
    refine wpAny_bind ?_
    unfold Builtin.Re.reNewMatch
    dsimp only
    rw [if_neg (by simp)]
    unfold newFields newTuple
    refine wpAny_bind (wpAny_newObj_type ?_ (by show Array.size _ ≤ sizeLine; rw [line_is]; simp))
    refine wpAny_newObj_type ?_ (by show (6 : Nat) ≤ sizeLine + 2; rw [line_is]; omega)
    refine wpAny_pure ?_
    rw [show (v4Run b).start = b.length - 3 by omega, show (v4Run b).handed = b.length - 1 by omega]
    have := K1 g0 (v4Run b).lastindex
    rw [← Heap.size_push s.heap { cls := .type "tuple", data := .seq #[rawInt (b.length - 3 : Nat), rawInt (b.length - 1 : Nat)] }] at this
    exact this
  · rename_i q
    right
    refine ⟨q, ?_⟩
    exact wpAny_pure (K0 (Nat.eq_of_beq_eq_true g))
  · cases g
end
end Mine
end
end
section
set_option genSizeOf false
set_option genInjectivity false
set_option maxRecDepth 100000
set_option maxHeartbeats 0
noncomputable section
namespace Mine
open PySem PySem.W PyProof.Rows
open Sem (wp)
theorem slot_match_ga : Slot "re.Match" "__getattribute__" "object.__getattribute__" :=
  .of (owner := "object") (n := "__getattribute__") (by rw [typeLookup_type, builtinLookup_eq_fast]; kernel_rfl) (by decide +kernel) (by decide +kernel) (by decide +kernel)
    (by first | exact .inl (by decide +kernel) | exact .inr (by decide +kernel)) (by rw [isSubtype_type]; kernel_rfl)
theorem entry_obj_ga : entryFor table "object.__getattribute__" = some Builtin.«object.__getattribute__» := entryFor_of_tree (by kernel_rfl)
theorem args_obj_ga (a b : Value) : argsOk "object.__getattribute__" ⟨[a, b], []⟩ := by unfold argsOk; kernel_rfl
theorem lk_match_string : typeLookup (.type "re.Match") "string" = pure (some (.builtin "re.Match.string")) := by rw [typeLookup_type, builtinLookup_eq_fast]; kernel_rfl
theorem type_match_string : typeOf (.builtin "re.Match.string") = pure (.type "member_descriptor") := by show builtinType _ = _; rw [builtinType_eq_fast]; kernel_rfl
theorem entry_match_string : entryFor table "re.Match.string" = some Builtin.«re.Match.string» := entryFor_of_tree (by kernel_rfl)
theorem sub_match_owner : isSubtype (.type "re.Match") (.type (".".intercalate ("re.Match.string".cutAt '.').dropLast)) = pure true := by
  have e0 : "re.Match.string".cutAt '.' = ["re", "Match", "string"] := by first | rfl | decide +kernel
  rw [e0, show ".".intercalate (["re", "Match", "string"] : List String).dropLast = "re.Match" by decide +kernel, isSubtype_type]; kernel_rfl
theorem slot_md_get : Slot "member_descriptor" "__get__" "member_descriptor.__get__" :=
  .of (owner := "member_descriptor") (n := "__get__") (by rw [typeLookup_type, builtinLookup_eq_fast]; kernel_rfl) (by decide +kernel) (by decide +kernel) (by decide +kernel)
    (by first | exact .inl (by decide +kernel) | exact .inr (by decide +kernel)) (by rw [isSubtype_type]; kernel_rfl)
theorem slot_md_set : Slot "member_descriptor" "__set__" "member_descriptor.__set__" :=
  .of (owner := "member_descriptor") (n := "__set__") (by rw [typeLookup_type, builtinLookup_eq_fast]; kernel_rfl) (by decide +kernel) (by decide +kernel) (by decide +kernel)
    (by first | exact .inl (by decide +kernel) | exact .inr (by decide +kernel)) (by rw [isSubtype_type]; kernel_rfl)
theorem entry_md_get : entryFor table "member_descriptor.__get__" = some Builtin.«member_descriptor.__get__» := entryFor_of_tree (by kernel_rfl)
theorem args_md_get (a b c : Value) : argsOk "member_descriptor.__get__" ⟨[a, b, c], []⟩ := by unfold argsOk; kernel_rfl
section
variable {prog' : Program} {w : World} {A : Around} {E : Value → Shared → Prop} {h : Heap} {g : Array GenState} {d : Drawn} {t : Nat} {os : OsState} {x : Addr} {o : Obj} {v0 : Value} {r : Array Value}
theorem mstring_get {R : Result → Shared → Prop} (hx : h.get? x = some o) (hc : o.cls = .type "re.Match") (hd : o.data = .fields r) (h0 : r[0]? = some v0) (hq : R (.ok (.ret v0)) ⟨h, g, d, t, os⟩) :
    codeAny (model prog' w) A (.call (.builtin "member_descriptor.__get__") ⟨[.builtin "re.Match.string", .ref x, .type "re.Match"], []⟩) R ⟨h, g, d, t, os⟩ := by
  have hT : (⟨h, g, d, t, os⟩ : Shared).TypeIs (.ref x) "re.Match" := ⟨_, hx, hc⟩
  have hT5 : (⟨h, g, d, t, os⟩ : Shared).TypeIs (.builtin "re.Match.string") "member_descriptor" := type_match_string
  have f8 := sub_match_owner
  refine codeAny_call_builtin slot_md_get.plain entry_md_get (slot_md_get.check _ _ _ _ _ _ _ _ hT5 (args_md_get _ _ _) ?_)
  unfold Builtin.«member_descriptor.__get__»
  repeat (any_goals (first | assumption | wp_step))
  refine ⟨Code.quiet_builtin _ (by decide +kernel), codeAny_builtin entry_match_string ?_⟩
  unfold Builtin.«re.Match.string»
  refine wpAny_bind (wpAny_field hx hd h0 ?_)
  exact wpAny_pure hq
theorem mstring_entry {tk : Tok} {Q : Fin → Shared → Prop} (hx : h.get? x = some o) (hc : o.cls = .type "re.Match") (hd : o.data = .fields r) (h0 : r[0]? = some v0) (hq : Q (.done (.ret v0)) ⟨h, g, d, t, os⟩) :
    wpAny (model prog' w) A (Builtin.«object.__getattribute__» ⟨[.ref x, .str "string" tk], []⟩) Q E ⟨h, g, d, t, os⟩ := by
  have hT : (⟨h, g, d, t, os⟩ : Shared).TypeIs (.ref x) "re.Match" := ⟨_, hx, hc⟩
  have hT5 : (⟨h, g, d, t, os⟩ : Shared).TypeIs (.builtin "re.Match.string") "member_descriptor" := type_match_string
  have f4 := lk_match_string
  have f5 := type_match_string
  have f6 := slot_md_get.lookup
  have f7 := slot_md_set.lookup
  unfold Builtin.«object.__getattribute__»
  repeat (any_goals (first | assumption | wp_step))
  refine mstring_get hx hc hd h0 ?_
  exact wpAny_pure hq
theorem mstring_ok {s : Shared} {Q : Value → Shared → Prop} (hx : s.heap.get? x = some o) (hc : o.cls = .type "re.Match") (hd : o.data = .fields r) (h0 : r[0]? = some v0) (hh : handedOut v0 = pure v0) (hq : Q v0 { s with toks := s.toks + 1 }) :
    wpAny (model prog' w) A (getAttr (.ref x) "string" true) Q E s := by
  obtain ⟨h, g, d, t, os⟩ := s
  obtain ⟨c, dct, dat, sl⟩ := o
  simp only at hc hd
  subst hc hd
  have hT : ∀ t', (⟨h, g, d, t', os⟩ : Shared).TypeIs (.ref x) "re.Match" := fun _ => ⟨_, hx, rfl⟩
  have f2 := slot_match_ga.lookup
  have f3 := slot_match_ga.bind (.ref x)
  unfold getAttr getAttrBy
  repeat (any_goals (first | assumption | exact hT _ | ((with_reducible show wpAny _ _ (call (Value.builtin "object.__getattribute__") _ _) _ _ _); refine wpAny_call (codeAny_call_builtin slot_match_ga.plain entry_obj_ga (slot_match_ga.check _ _ _ _ _ _ _ _ (hT _) (args_obj_ga _ _) (mstring_entry hx rfl rfl h0 ?_)))) | wp_step))
end
end Mine
end
end
section
set_option linter.unusedVariables false
set_option linter.unusedSectionVars false
set_option autoImplicit false
set_option genSizeOf false
set_option genInjectivity false
set_option maxRecDepth 100000
set_option maxHeartbeats 0
noncomputable section
namespace Mine
open PySem PySem.W PyProof.Rows
open Sem (wp)
theorem slot_span : Slot "re.Match" "span" "re.Match.span" :=
  .of (owner := "re.Match") (n := "span") (by rw [typeLookup_type, builtinLookup_eq_fast]; kernel_rfl) (by decide +kernel) (by decide +kernel) (by decide +kernel)
    (by first | exact .inl (by decide +kernel) | exact .inr (by decide +kernel)) (by rw [isSubtype_type]; kernel_rfl)
theorem type_span : typeOf (.builtin "re.Match.span") = pure (.type "method_descriptor") := by show builtinType _ = _; rw [builtinType_eq_fast]; kernel_rfl
theorem entry_span : entryFor table "re.Match.span" = some Builtin.«re.Match.span» := entryFor_of_tree (by kernel_rfl)
theorem args_span (a b : Value) : argsOk "re.Match.span" ⟨[a, b], []⟩ := by unfold argsOk; kernel_rfl
theorem pa_match : PlainAttrs "re.Match" := ⟨⟨"object.__getattribute__", by rw [typeLookup_type, builtinLookup_eq_fast]; kernel_rfl, by decide +kernel⟩, by rw [typeLookup_type, builtinLookup_eq_fast]; kernel_rfl⟩
section
variable {prog' : Program} {w : World} {A : Around} {E : Value → Shared → Prop} {x y : Addr} {o oy : Obj} {v0 v1 v2 v3 v4 : Value} {b e : Int} {t0 t1 t2 : Tok}
theorem span_ok {s : Shared} {Q : Value → Shared → Prop} (hx : s.heap.get? x = some o) (hc : o.cls = .type "re.Match") (hd : o.data = .fields #[v0, v1, v2, v3, v4, .ref y]) (hy : s.heap.get? y = some oy) (hyd : oy.data = .seq #[.int b t1, .int e t2] 0)
    (hq : ∀ tk u1 u2, Q (.ref s.heap.objs.size) { s with heap := s.heap.push { cls := .type "tuple", data := .seq #[.int b u1, .int e u2] }, toks := tk }) :
    wpAny (model prog' w) A (call (.builtin "re.Match.span") [.ref x, .int 0 t0]) Q E s := by
  have hT : s.TypeIs (.ref x) "re.Match" := ⟨_, hx, hc⟩
  refine wpAny_call (codeAny_call_builtin slot_span.plain entry_span (slot_span.check _ _ _ _ _ _ _ _ hT (args_span _ _) ?_))
  unfold Builtin.«re.Match.span» Builtin.Re.reOneGroup
  refine wpAny_bind ?_
  refine wpAny_bind (wpAny_of_eq (a := (.ref x, [.int 0 t0])) rfl ?_)
  dsimp only
  refine wpAny_bind ?_
  unfold Builtin.Re.reFound
  refine wpAny_bind (wpAny_fieldsOf hx hd ?_)
  refine wpAny_bind ?_
  unfold Builtin.Re.reRawItems
  refine wpAny_bind (wpAny_seqItems hy hyd ?_)
  refine wpAny_pure (wpAny_pure ?_)
  refine wpAny_bind ?_
  unfold Builtin.Re.reGroupNumber
  refine wpAny_bind (wpAny_of_eq (a := some 0) rfl ?_)
  rw [if_pos (by rfl)]
  refine wpAny_bind (wpAny_of_eq (a := 0) rfl ?_)
  dsimp only
  rw [if_neg (by simp)]
  refine wpAny_pure (wpAny_pure ?_)
  dsimp only
  refine wpAny_bind (wpAny_mkInt ?_)
  refine wpAny_bind (wpAny_mkInt ?_)
  refine wpAny_bind ?_
  unfold newTuple
  refine wpAny_newObj_type ?_ (by show Array.size _ ≤ sizeLine; rw [line_is]; simp)
  refine wpAny_pure ?_
  have e1 : ((Array.map Builtin.Re.reRawOf ((some #[Value.int b t1, Value.int e t2]).getD #[])).getD (2 * Int.toNat 0) (-1)) = b := by simp [Builtin.Re.reRawOf]
  have e2 : ((Array.map Builtin.Re.reRawOf ((some #[Value.int b t1, Value.int e t2]).getD #[])).getD (2 * Int.toNat 0 + 1) (-1)) = e := by simp [Builtin.Re.reRawOf]
  dsimp only
  rw [e1, e2]
  exact hq _ _ _
end
section
variable {C : Cx} {n : Nat} {sc : Sc}
theorem pat50 (P : Pg C) : Pat4 C.hb 50 := ⟨_, _, _, _, _, _, P.frag 50 _ rfl, P.frag 49 _ rfl⟩
noncomputable def oSearch (a : List AV) (os : Store) : Option (AV × Store) := on1 a fun x => onStr x fun b => bT (addrOk b) <| bT (Nat.ble b.length 2000) <| bIf (Nat.blt 2 b.length)
  (ob (os.new (.tup [.int (.ofNat (b.length - 3)), .int (.ofNat (b.length - 1))])) fun v os1 => onRef v fun j => os1.new (.mat b j 0)) (bT (Nat.beq b.length 2) <| some (.none, os))
theorem Pat4.obj {h : Heap} {x : Addr} (hP : Pat4 h x) : ∃ o, h.get? x = some o ∧ o.cls = .type "re.Pattern" := by
  obtain ⟨pb, t1, t2, t3, t5, y, e1, e2⟩ := hP.o
  exact ⟨_, e1, rfl⟩
theorem Pat4.nodict {h : Heap} {x : Addr} (hP : Pat4 h x) : ∀ a, Value.ref x = .ref a → ∃ ob, h.get? a = some ob ∧ ob.dict = none := fun a ea => by
  cases ea
  obtain ⟨pb, t1, t2, t3, t5, y, e1, e2⟩ := hP.o
  exact ⟨_, e1, rfl⟩
theorem tup2_rvs {as : List Addr} {a b : Nat} {t u : Tok} : RVs C as [.int (.ofNat a), .int (.ofNat b)] (#[Value.int (a : Nat) t, Value.int (b : Nat) u] : Array Value).toList := ⟨_, _, rfl, ⟨_, rfl⟩, ⟨_, _, rfl, ⟨_, rfl⟩, rfl⟩⟩
theorem RefE.search (O : Ok C) (P : Pg C) (hmg : C.mg (Str.ofString "IPV4_RE") = some (.ref 50)) {a0 : Expr} {args : List Expr} {p apos pos : Pos} {fs} (hfs : RefL C n sc (a0 :: args) (cSeq fs))
    (hx : sc.s.names.lookup (Str.ofString "IPV4_RE") = some .globalImplicit) (hline : (apos.endLine == pos.line) = true)
    (hbase : ∀ env, attributeBase (.Name (Str.ofString "IPV4_RE") p) (Str.ofString "search") env (eval (.Name (Str.ofString "IPV4_RE") p) env) = eval (.Name (Str.ofString "IPV4_RE") p) env := by intro _; rfl)
    (hfew : ∀ env, ((backTo pos (starEach (a0 :: args) env)).all (fun x => !x.1) && (backToKw pos (keywordEach [] env)).all (fun x => x.1.isSome)
      && decide ((a0 :: args).length + ([] : List Keyword).length + (if ([] : List Keyword).isEmpty then 0 else 1) < 30)) = true := by intro _; rfl)
    (hp : ∀ env, (backTo pos (starEach (a0 :: args) env)).any (·.1) = false := by intro _; rfl)
    (hse : ∀ env, starEach (a0 :: args) env = (false, eval a0 env) :: starEach args env := by intro _; rfl) :
    RefE C n sc (.Call (.Attribute (.Name (Str.ofString "IPV4_RE") p) (Str.ofString "search") apos) (a0 :: args) [] pos) (cCall oSearch (cSeq fs)) := by
  intro A env E s hk as st st' u Q R F e' X K
  refine ob_elim e' fun a s1 q1 e => ob_elim e fun wv o q2 z9 => ?_
  refine wpAny_Call_method (hbase env) (hfew env) hline pa_pat slot_search type_search (nameG O X F hx hmg (by decide) ?_)
  have P0 := pat50 P
  have hP : Pat4 s.heap 50 := P0.move fun b o q => X.S.inBase q
  refine ⟨hP.obj, hP.nodict, ?_⟩
  refine Calls.callWith_builtin (hp env) ?_
  refine args_of (hse env) (hfs pos R F q1 X fun as2 h2 t2 xs p2 X2 hxs => ?_)
  show wpAny (model prog C.w) A (call (.builtin "re.Pattern.search") (.ref 50 :: xs)) Q E _
  refine on1_elim q2 fun x1 ha e => onStr_elim e fun b h1 e => bT_elim e fun q3 e => bT_elim e fun q4 e8 => ?_
  subst ha h1
  refine rvs1 hxs fun w hw => rvStr hw fun t => ?_
  have hP2 : Pat4 h2 50 := P0.move fun b o q => X2.S.inBase q
  refine bIf_elim e8 (fun q5 e => ob_elim e fun vj os1 q6 e => onRef_elim e fun j hj q7 => ?_) fun _ e => bT_elim e fun q5 z => ?_
  · subst hj
    refine search_ok q3 (ble_iff.mp q4) hP2 (fun z => absurd z (Nat.ne_of_gt (blt_t q5))) fun _ li => ?_
    have X3 := X2.pushTup q6 (items := #[rawInt (b.length - 3 : Nat), rawInt (b.length - 1 : Nat)]) tup2_rvs
    obtain ⟨y, hy, hye⟩ := X3.2
    cases hye
    have X4 := X3.1.new (a := h2.objs.size + 1) (ob := { cls := .type "re.Match", data := .fields #[.str ⟨b.toArray⟩ t, .ref 50, rawInt 0, rawInt b.length, rawInt li, .ref h2.objs.size] }) q7
      (fun b o e => Heap.get?_push_of_some _ e) (by rw [← Heap.size_push]; exact fresh_size _) (Heap.get?_push_at (by simp only [Heap.size_push]) rfl) ⟨_, _, _, _, _, _, pre_get pre1 hy, Heap.get?_push_at (by simp only [Heap.size_push]) rfl⟩ rfl
    exact kRetT z9 K _ _ _ _ ((p2.trans pre1).trans pre1) X4.1 X4.2
  · refine search_ok q3 (ble_iff.mp q4) hP2 (fun _ => kRet z (kRetT z9 K) as2 h2 _ _ p2 X2 rfl) fun z => ?_
    have := Nat.eq_of_beq_eq_true q5
    omega
theorem Rel.matAt {hk : Heap} {as : List Addr} {st : St} {L : Fm} {h : Heap} (X : Rel C hk as st L h) {i j c : Nat} {b : List Nat} (e : st.os.get i = some (.mat b j c)) {x : Value} (hx : RV C as (.ref i) x) :
    ∃ a y t v1 v2 v3 v4, x = .ref a ∧ as[j]? = some y ∧ h.get? a = some { cls := .type "re.Match", data := .fields #[.str ⟨b.toArray⟩ t, v1, v2, v3, v4, .ref y] } := by
  obtain ⟨a, ha, rfl⟩ := hx
  obtain ⟨a', ha', y, t, v1, v2, v3, v4, hy, ho⟩ := X.S.obj i _ e
  rw [ha] at ha'
  cases ha'
  exact ⟨a, y, t, v1, v2, v3, v4, rfl, hy, ho⟩
noncomputable def cTrM (f : St → Option (AV × St)) : St → Option (Bool × St) := fun s => ob (f s) fun a s1 => alt (onNone a <| some (false, s1)) (onRef a fun i => onMat (s1.os.get i) fun _ _ _ => some (true, s1))
theorem no_bool_match : typeLookup (.type "re.Match") "__bool__" = pure none := by rw [typeLookup_type, builtinLookup_eq_fast]; kernel_rfl
theorem no_len_match : typeLookup (.type "re.Match") "__len__" = pure none := by rw [typeLookup_type, builtinLookup_eq_fast]; kernel_rfl
theorem truthy_match {A : Around} {E : Value → Shared → Prop} {s : Shared} {x : Addr} {o : Obj} {Q : Bool → Shared → Prop} (hx : s.heap.get? x = some o) (hc : o.cls = .type "re.Match") (h : Q true s) : wpAny (model prog C.w) A (truthy (.ref x)) Q E s := by
  obtain ⟨hp, g, d, tk, os⟩ := s
  obtain ⟨c, dct, dat, sl⟩ := o
  simp only at hc
  subst hc
  have hT : (⟨hp, g, d, tk, os⟩ : Shared).TypeIs (.ref x) "re.Match" := ⟨_, hx, rfl⟩
  have f1 := no_bool_match
  have f2 := no_len_match
  unfold truthy
  repeat (any_goals (first | assumption | wp_step))
theorem RefB.valM {e : Expr} {f} (hf : RefE C n sc e f) (he : ∀ env whole, isTrue e env whole = (do let v ← whole; standAt e.pos; holding [v] (truthy v)) := by intro _ _; rfl) : RefB C n sc e (cTrM f) := by
  intro A env E s hk as st st' v Q R F e' X K
  refine ob_elim e' fun a s1 q1 e9 => ?_
  refine wpAny_isTrue_value (hf R F q1 X fun as1 h1 t1 x p1 X1 hx => ?_) (he _ _)
  refine alt_elim e9 (fun e => onNone_elim e fun h z => ?_) fun e => onRef_elim e fun i h e => onMat_elim e fun b j c q2 z => ?_
  · subst h
    exact rvNone hx (truthy_none (kRetTB z K as1 h1 t1 _ p1 X1 rfl))
  · subst h
    obtain ⟨a, y, t, v1, v2, v3, v4, rfl, hy, ho⟩ := X1.matAt q2 hx
    exact truthy_match ho rfl (kRetTB z K as1 h1 t1 _ p1 X1 rfl)
noncomputable def cMStr (f : St → Option (AV × St)) : St → Option (AV × St) := fun s => ob (f s) fun a s1 => onRef a fun i => onMat (s1.os.get i) fun b _ _ => some (.str b, s1)
theorem RefE.mstr {x : Str} {p pos : Pos} {f} (hf : RefE C n sc (.Name x p) f) : RefE C n sc (.Attribute (.Name x p) (Str.ofString "string") pos) (cMStr f) := by
  intro A env E s hk as st st' v Q R F e' X K
  refine ob_elim e' fun a s1 q1 e => onRef_elim e fun i h e => onMat_elim e fun b j c q2 z => ?_
  subst h
  refine Attribute_name (hf R F q1 X fun as1 h1 t1 x p1 X1 hx => ?_)
  obtain ⟨a, y, t, v1, v2, v3, v4, rfl, hy, ho⟩ := X1.matAt q2 hx
  exact mstring_ok ho rfl rfl rfl rfl (kRetT z K as1 h1 _ _ p1 X1 ⟨_, rfl⟩)
noncomputable def cSpan (f g : St → Option (AV × St)) : St → Option (AV × St) := fun s => ob (f s) fun a s1 => ob (g s1) fun z s2 => onInt z fun zi => onRef a fun i => bT (eqI zi 0) <| onMat (s1.os.get i) fun _ _ _ => onMat (s2.os.get i) fun _ j _ =>
  onTup (s2.os.get j) fun l => onPair l fun b e => onInt b fun b => onInt e fun e => ob (s2.os.new (.tup [.int b, .int e])) fun v o => mkS v s2 o
theorem RefE.span {x : Str} {a0 : Expr} {p apos pos : Pos} {f g} (hf : RefE C n sc (.Name x p) f) (hg : RefE C n sc a0 g) (hline : (apos.endLine == pos.line) = true)
    (hbase : ∀ env, attributeBase (.Name x p) (Str.ofString "span") env (eval (.Name x p) env) = eval (.Name x p) env := by intro _; rfl)
    (hfew : ∀ env, ((backTo pos (starEach [a0] env)).all (fun x => !x.1) && (backToKw pos (keywordEach [] env)).all (fun x => x.1.isSome)
      && decide ([a0].length + ([] : List Keyword).length + (if ([] : List Keyword).isEmpty then 0 else 1) < 30)) = true := by intro _; rfl)
    (hp : ∀ env, (backTo pos (starEach [a0] env)).any (·.1) = false := by intro _; rfl)
    (hse : ∀ env, starEach [a0] env = (false, eval a0 env) :: starEach [] env := by intro _; rfl) :
    RefE C n sc (.Call (.Attribute (.Name x p) (Str.ofString "span") apos) [a0] [] pos) (cSpan f g) := by
  intro A env E s hk as st st' u Q R F e' X K
  refine ob_elim e' fun a s1 q1 e => ob_elim e fun z s2 q2 e => onInt_elim e fun zi hz e => onRef_elim e fun i hi e => bT_elim e fun q0 e => onMat_elim e fun b' j' c' q3' e => onMat_elim e fun b j c q3 e => onTup_elim e fun l q4 e => onPair_elim e fun b2 e2 hl e => onInt_elim e fun b1 hb e => onInt_elim e fun e1 he e => ob_elim e fun v o q5 z9 => ?_
  cases eqI_is q0
  subst hz hi hl hb he
  refine wpAny_Call_method (hbase env) (hfew env) hline pa_match slot_span type_span (hf R F q1 X fun as1 h1 t1 x p1 X1 hx => ?_)
  obtain ⟨a, y, t, v1, v2, v3, v4, rfl, hy, ho⟩ := X1.matAt q3' hx
  refine ⟨⟨_, ho, rfl⟩, fun a ea => by cases ea; exact ⟨_, ho, rfl⟩, ?_⟩
  refine Calls.callWith_builtin (hp env) ?_
  refine args_of (hse env) ((RefL.cons hg RefL.nil hse) pos R F (cSeq_1 q2) X1 fun as2 h2 t2 xs p2 X2 hxs => ?_)
  refine rvs1 hxs fun w hw => rvInt hw fun tz => ?_
  obtain ⟨a2, y2, t2', w1, w2, w3, w4, hxe, hy2, ho2⟩ := X2.matAt q3 (hx.mono p2)
  cases hxe
  obtain ⟨yy, hyy, items, htup, hr⟩ := X2.S.obj j _ q4
  rw [hy2] at hyy
  cases hyy
  obtain ⟨z1, z2, rfl, ⟨u1, rfl⟩, ⟨u2, rfl⟩⟩ := rvs2L hr
  refine span_ok (x := a) ho2 rfl rfl htup rfl fun tk u1 u2 => ?_
  have X3 := X2.pushTup q5 (items := #[.int b1 u1, .int e1 u2]) ⟨_, _, rfl, ⟨_, rfl⟩, ⟨_, _, rfl, ⟨_, rfl⟩, rfl⟩⟩
  exact kRetT z9 K _ _ _ _ ((p1.trans p2).trans pre1) X3.1 X3.2
end
end Mine
end
end
section
set_option maxRecDepth 100000
set_option maxHeartbeats 0
set_option linter.unusedVariables false
set_option linter.unusedSectionVars false
set_option autoImplicit false
set_option genSizeOf false
set_option genInjectivity false
noncomputable section
namespace Mine
open PySem PySem.W PyProof.Rows
/-! names of the module -/
structure Pg2 (C : Cx) : Prop where
  v4 : C.mg (Str.ofString "IPV4_RE") = some (.ref 50)
  ws : C.mg (Str.ofString "Whitespace") = some (.ref 163)
  rr : C.mg (Str.ofString "SMTPRecipientsRefused") = some (.ref 92)
section
variable {C : Cx} {n : Nat}
noncomputable def b2 : St → Option (AF × St) := (cThen (cAsg (aTup2 7 47) (cSpan (cVar 46) (cInt 0))) (cThen (cRet (cBin opAddF (cSliceX slStr (cMStr (cVar 46)) cNone (cVar 7)) (cSliceX slStr (cMStr (cVar 46)) (cVar 47) cNone))) cEnd))
theorem s2 (O : Ok C) (P : Pg C) (P2 : Pg2 C) (B : Bn C) {A : Nat → Addr} (D : ∀ j ∈ fnIx, FnAt C (defK j) (A j)) : RefSs C n ⟨(defK 2).scope, true⟩ (defK 2).body (b2) :=
  (RefSs.cons (by exact (RefS.asgT (RefE.span (RefE.var (k := 46) (by decide +kernel)) RefE.int rfl) (RefA.tup2 ⟨by decide, .inl (by decide +kernel)⟩ ⟨by decide, .inl (by decide +kernel)⟩))) (RefSs.cons (by exact (RefS.ret (RefE.addF (RefE.sliceX slStr_ok (RefE.mstr (RefE.var (k := 46) (by decide +kernel))) RefO.none (RefO.some (RefE.var (k := 7) (by decide +kernel)))) (RefE.sliceX slStr_ok (RefE.mstr (RefE.var (k := 46) (by decide +kernel))) (RefO.some (RefE.var (k := 47) (by decide +kernel))) RefO.none)))) RefSs.nil))
noncomputable def f2 : Fn := fnOf [46] b2
theorem r2 (O : Ok C) (P : Pg C) (P2 : Pg2 C) (B : Bn C) {A : Nat → Addr} (D : ∀ j ∈ fnIx, FnAt C (defK j) (A j)) : RefF C (n + 1) (A 2) f2 :=
  RefF.mk O (D 2 (by decide)) (s2 O P P2 B D) (by intro s pm code doc vals h; obtain ⟨a0, rfl⟩ := len1 h; exact BindsTo.of_eq (by kernel_rfl)) (by decide) (by decide) (by decide +kernel) (by decide +kernel) (by decide +kernel) (by decide +kernel) (by decide +kernel)
noncomputable def b4 : St → Option (AF × St) := (cThen (cIf (cTrM (cCall oSearch (cSeq [(cVar 48)]))) (cThen (cRet (cBool false)) cEnd) cEnd) (cThen (cIf (cCmp oEqF (cVar 48) (cStr [])) (cThen (cRet (cBool false)) cEnd) cEnd) (cThen (cIf (cOrB (cCmp oEqF (cItemF (cVar 48) (cInt 0)) (cStr [46])) (cCmp oEqF (cItemF (cVar 48) (cNeg (cInt 1))) (cStr [46]))) (cThen (cRet (cBool false)) cEnd) cEnd) (cThen (cRet (cBool true)) cEnd))))
theorem s4 (O : Ok C) (P : Pg C) (P2 : Pg2 C) (B : Bn C) {A : Nat → Addr} (D : ∀ j ∈ fnIx, FnAt C (defK j) (A j)) : RefSs C n ⟨(defK 4).scope, true⟩ (defK 4).body (b4) :=
  (RefSs.cons (by exact (RefS.ite (RefB.valM (RefE.search O P P2.v4 (RefL.cons (RefE.var (k := 48) (by decide +kernel)) RefL.nil) (by decide +kernel) rfl)) (RefSs.cons (by exact (RefS.ret RefE.bool)) RefSs.nil) RefSs.nil)) (RefSs.cons (by exact (RefS.ite (RefB.cmp oEqF_ok (RefE.var (k := 48) (by decide +kernel)) (RefE.str (by decide +kernel)) rfl) (RefSs.cons (by exact (RefS.ret RefE.bool)) RefSs.nil) RefSs.nil)) (RefSs.cons (by exact (RefS.ite (RefB.or (RefB.cmp oEqF_ok (RefE.itemF (RefE.var (k := 48) (by decide +kernel)) RefE.int) (RefE.str (by decide +kernel)) rfl) (RefB.cmp oEqF_ok (RefE.itemF (RefE.var (k := 48) (by decide +kernel)) (RefE.neg RefE.int)) (RefE.str (by decide +kernel)) rfl)) (RefSs.cons (by exact (RefS.ret RefE.bool)) RefSs.nil) RefSs.nil)) (RefSs.cons (by exact (RefS.ret RefE.bool)) RefSs.nil))))
noncomputable def f4 : Fn := fnOf [48] b4
theorem r4 (O : Ok C) (P : Pg C) (P2 : Pg2 C) (B : Bn C) {A : Nat → Addr} (D : ∀ j ∈ fnIx, FnAt C (defK j) (A j)) : RefF C (n + 1) (A 4) f4 :=
  RefF.mk O (D 4 (by decide)) (s4 O P P2 B D) (by intro s pm code doc vals h; obtain ⟨a0, rfl⟩ := len1 h; exact BindsTo.of_eq (by kernel_rfl)) (by decide) (by decide) (by decide +kernel) (by decide +kernel) (by decide +kernel) (by decide +kernel) (by decide +kernel)
noncomputable def b15 : St → Option (AF × St) := (cThen (cAsg (aName 5) cDictS) (cThen (cFor false (cIter (cVar 4)) (aName 26) (cThen (cPut (cList []) (cVar 5) (cVar 26)) (cThen (cIf (cNotB (cTrF (cCall f4 (cSeq [(cVar 26)])))) (cThen (cExpr (cMeth 1 oAppend (cMeth 4 oSetdef (cVar 5) (cSeq [(cCall f2 (cSeq [(cCall oSearch (cSeq [(cVar 26)]))])), (cList [])])) (cSeq [(cVar 26)]))) cEnd) cEnd) cEnd))) (cThen (cAsg (aName 27) cDictS) (cThen (cFor false (cIter (cRev (cVar 4))) (aName 26) (cThen (cPut (cComp true (cIter (cCall oSorted (cSeq [(cComp false (cIter (cItemF (cVar 5) (cVar 26))) (aName 13) cYes (cTup [(cNeg (cItemF (cVar 27) (cVar 13))), (cVar 13)]) [27])]))) (aTup2 28 13) cYes (cVar 13) []) (cVar 5) (cVar 26)) (cThen (cPut (cCall oMax (cSeq [(cBin opAddF (cList [(cInt 1)]) (cComp true (cEnum (cItemF (cVar 5) (cVar 26))) (aTup2 29 13) cYes (cBin opAddF (cVar 29) (cItemF (cVar 27) (cVar 13))) [27]))])) (cVar 27) (cVar 26)) cEnd))) (cThen (cRet (cVar 5)) cEnd)))))
theorem s15 (O : Ok C) (P : Pg C) (P2 : Pg2 C) (B : Bn C) {A : Nat → Addr} (D : ∀ j ∈ fnIx, FnAt C (defK j) (A j)) : RefSs C (n + 1) ⟨(defK 15).scope, true⟩ (defK 15).body (b15) :=
  (RefSs.cons (by exact (RefS.asg RefE.dictS ⟨by decide, .inl (by decide +kernel)⟩)) (RefSs.cons (by exact (RefS.for (RefI.val O (RefE.var (k := 4) (by decide +kernel))) (.name _ _) (RefA.name ⟨by decide, .inl (by decide +kernel)⟩) (RefSs.cons (by exact (RefS.put (RefE.list RefL.nil) (RefE.var (k := 5) (by decide +kernel)) (RefE.var (k := 26) (by decide +kernel)))) (RefSs.cons (by exact (RefS.ite (RefB.not (RefB.valF (RefE.callF O (D _ (by decide)) (r4 O P P2 B D) (RefL.cons (RefE.var (k := 26) (by decide +kernel)) RefL.nil) rfl (by decide +kernel) rfl))) (RefSs.cons (by exact (RefS.expr (RefE.meth (k := 0) oAppend_ok (RefE.meth (k := 3) (oSetdef_ok O) (RefE.var (k := 5) (by decide +kernel)) (RefL.cons (RefE.callF O (D _ (by decide)) (r2 O P P2 B D) (RefL.cons (RefE.search O P P2.v4 (RefL.cons (RefE.var (k := 26) (by decide +kernel)) RefL.nil) (by decide +kernel) rfl) RefL.nil) rfl (by decide +kernel) rfl) (RefL.cons (RefE.list RefL.nil) RefL.nil)) F.plainAttrs_dict F.slot_dict_setdefault F.type_dict_setdefault rfl) (RefL.cons (RefE.var (k := 26) (by decide +kernel)) RefL.nil) F.plainAttrs_list F.slot_list_append F.type_list_append rfl) (by intro env h; unfold interactive; rw [h]; rfl))) RefSs.nil) RefSs.nil)) RefSs.nil)))) (RefSs.cons (by exact (RefS.asg RefE.dictS ⟨by decide, .inr ⟨by decide +kernel, rfl⟩⟩)) (RefSs.cons (by exact (RefS.for (RefI.val O (RefE.rev (RefE.var (k := 4) (by decide +kernel)))) (.name _ _) (RefA.name ⟨by decide, .inl (by decide +kernel)⟩) (RefSs.cons (by exact (RefS.put (RefE.comp (RefI.val O (RefE.callB O oSorted_ok (RefL.cons (RefE.comp (RefI.val O (RefE.itemF (RefE.var (k := 5) (by decide +kernel)) (RefE.var (k := 26) (by decide +kernel)))) (.name _ _) (fr := [27]) ⟨by decide +kernel, by decide +kernel, by decide +kernel, by decide +kernel, rfl, by decide +kernel, by decide +kernel, by decide +kernel, by decide⟩ (RefA.name ⟨by decide, .inl (by decide +kernel)⟩) RefTs.nil (RefE.tup (RefL.cons (RefE.neg (RefE.itemF (RefE.varC (k := 27) (by decide +kernel)) (RefE.var (k := 13) (by decide +kernel)))) (RefL.cons (RefE.var (k := 13) (by decide +kernel)) RefL.nil)))) RefL.nil) (.b "sorted") (by decide +kernel) (B.no _ (by decide +kernel)) rfl rfl (by decide))) (.tup _ _ _) (fr := []) ⟨by decide +kernel, by decide +kernel, by decide +kernel, by decide +kernel, rfl, by decide +kernel, by decide +kernel, by decide +kernel, by decide⟩ (RefA.tup2 ⟨by decide, .inl (by decide +kernel)⟩ ⟨by decide, .inl (by decide +kernel)⟩) RefTs.nil (RefE.var (k := 13) (by decide +kernel))) (RefE.var (k := 5) (by decide +kernel)) (RefE.var (k := 26) (by decide +kernel)))) (RefSs.cons (by exact (RefS.put (RefE.callB O oMax_ok (RefL.cons (RefE.addF (RefE.list (RefL.cons RefE.int RefL.nil)) (RefE.comp (RefI.enum O (RefE.itemF (RefE.var (k := 5) (by decide +kernel)) (RefE.var (k := 26) (by decide +kernel))) (by decide +kernel) (B.no _ (by decide +kernel))) (.tup _ _ _) (fr := [27]) ⟨by decide +kernel, by decide +kernel, by decide +kernel, by decide +kernel, rfl, by decide +kernel, by decide +kernel, by decide +kernel, by decide⟩ (RefA.tup2 ⟨by decide, .inl (by decide +kernel)⟩ ⟨by decide, .inl (by decide +kernel)⟩) RefTs.nil (RefE.addF (RefE.var (k := 29) (by decide +kernel)) (RefE.itemF (RefE.varC (k := 27) (by decide +kernel)) (RefE.var (k := 13) (by decide +kernel)))))) RefL.nil) (.b "max") (by decide +kernel) (B.no _ (by decide +kernel)) rfl rfl (by decide)) (RefE.varC (k := 27) (by decide +kernel)) (RefE.var (k := 26) (by decide +kernel)))) RefSs.nil)))) (RefSs.cons (by exact (RefS.ret (RefE.var (k := 5) (by decide +kernel)))) RefSs.nil)))))
noncomputable def f15 : Fn := fnOf [4] b15
theorem r15 (O : Ok C) (P : Pg C) (P2 : Pg2 C) (B : Bn C) {A : Nat → Addr} (D : ∀ j ∈ fnIx, FnAt C (defK j) (A j)) : RefF C (n + 2) (A 15) f15 :=
  RefF.mkC O (D 15 (by decide)) (s15 O P P2 B D) (by intro pm code doc val; kernel_rfl) (by decide) (by first | exact .inl (by decide +kernel) | exact .inr (by decide +kernel)) (by decide +kernel) (by decide +kernel) (by decide +kernel) (by decide +kernel) (by decide +kernel)
end
end Mine
end
end
section
set_option maxRecDepth 100000
set_option maxHeartbeats 0
set_option linter.unusedVariables false
set_option linter.unusedSectionVars false
set_option autoImplicit false
set_option genSizeOf false
set_option genInjectivity false
noncomputable section
namespace Mine
open PySem PySem.W PyProof.Rows
section
variable {C : Cx} {n : Nat} {sc : Sc}
/-! slices with a step -/
noncomputable def pickN (n : Nat) (lo hi st : Option Int) : List Nat := sliceRange (sliceBounds lo hi st n).1 (sliceBounds lo hi st n).2.1 (sliceBounds lo hi st n).2.2
noncomputable def pickL (xs : List AV) (ix : List Nat) : List AV := ix.filterMap fun i => nth xs i
theorem pick_rvs {as : List Addr} {xs : List AV} {items : Array Value} (h : RVs C as xs items.toList) : ∀ ix : List Nat, RVs C as (pickL xs ix) (ix.filterMap (items[·]?))
  | [] => rfl
  | i :: r => by
    have ih := pick_rvs h r
    have hl := h.length
    unfold pickL at ih ⊢
    rw [List.filterMap_cons, List.filterMap_cons, nth_eq]
    cases q : xs[i]? with
    | none =>
      have : items[i]? = none := by
        rw [List.getElem?_eq_none_iff] at q
        rw [Array.getElem?_eq_none_iff]
        simp only [Array.length_toList] at hl
        omega
      rw [this]
      exact ih
    | some a =>
      obtain ⟨v, hv, hr⟩ := h.get q
      rw [Array.getElem?_toList] at hv
      rw [hv]
      exact ⟨v, _, rfl, hr, ih⟩
noncomputable def cSliceN (f g h k : St → Option (AV × St)) : St → Option (AV × St) := fun s => ob (f s) fun a s1 => ob (g s1) fun lo s2 => ob (h s2) fun hi s3 => ob (k s3) fun sp s4 => onInt lo fun l => onInt hi fun u => onInt sp fun q => onNat q fun q => onSucc q fun p => onPar a fun nn => bT (Nat.ble nn 2000) <|
  ob (s4.os.new (.list (pickL (List.replicate nn .aint) (pickN nn (some l) (some u) (some (.ofNat (p + 1))))))) fun v o => mkS v s4 o
theorem aint_rvs {as : List Addr} (l : List Value) : (∀ x ∈ l, ∃ i t, x = .int i t) → RVs C as (List.replicate l.length .aint) l := by
  induction l with
  | nil => intro _; rfl
  | cons v r ih => intro hh; exact ⟨v, r, rfl, hh v (.head _), ih fun x hx => hh x (.tail _ hx)⟩
theorem RefE.sliceN {x lo hi st : Expr} {p pos : Pos} {f g h k} (hf : RefE C n sc x f) (hg : RefE C n sc lo g) (hh : RefE C n sc hi h) (hs : RefE C n sc st k) : RefE C n sc (.Subscript x (.Slice (some lo) (some hi) (some st) p) pos) (cSliceN f g h k) := by
  intro A env E s hk as st0 st' v Q R F e X K
  refine ob_elim e fun a s1 q1 e => ob_elim e fun l s2 q2 e => ob_elim e fun u s3 q3 e => ob_elim e fun z0 s4 q4 e => onInt_elim e fun lo' g1 e => onInt_elim e fun hi' g2 e => onInt_elim e fun sq g3 e => onNat_elim e fun sq2 g4 e => onSucc_elim e fun sp g5 e => onPar_elim e fun nn g6 e => bT_elim e fun qb e => ob_elim e fun w o qn z9 => ?_
  subst g1 g2 g3 g4 g5 g6
  refine Subscript_ (hf R F q1 X fun as1 h1 t1 x p1 X1 hx => wpAny_Slice ?_)
  rw [evalPart_some]
  refine hg R F q2 X1 fun as2 h2 t2 y p2 X2 hy => ?_
  rw [evalPart_some]
  refine hh R F q3 X2 fun as3 h3 t3 z p3 X3 hz => ?_
  rw [evalPart_some]
  refine hs R F q4 X3 fun as4 h4 t4 zz p4 X4 hzz => ?_
  obtain ⟨a, items, rfl, ⟨ol, hol, hcl, nl, hdl⟩, l1, hall⟩ := hx
  have hr : RVs C as4 (List.replicate nn .aint) items.toList := by
    have := aint_rvs (C := C) (as := as4) items.toList hall
    rwa [Array.length_toList, l1] at this
  refine rvInt hy fun t5 => rvInt hz fun t6 => rvInt hzz fun t7 => ?_
  have X5 := X4.push { cls := .type "slice", data := .fields #[.int lo' t5, .int hi' t6, .int (.ofNat (sp + 1)) t7] }
  have hll : (h4.push { cls := .type "slice", data := .fields #[.int lo' t5, .int hi' t6, .int (.ofNat (sp + 1)) t7] }).IsList a items := ⟨ol, Heap.get?_push_of_some _ (X4.S.inBase hol), hcl, nl, hdl⟩
  have b1 := ble_iff.mp qb
  refine tail_any (T := "list") hll.typeIs slot_list_getitem.lookup ?_ (ops := [.ref a, .ref h4.objs.size]) rfl
  refine wpAny_getItem_list_slice hll (Heap.IsSliceOf.new h4 _ _ _) (.int _ _) (.int _ _) (.int _ _) (by simp; omega) ?_ (by rw [line_is]; omega)
  have X6 := X5.pushList qn (items := slicePick items (some lo') (some hi') (some (.ofNat (sp + 1)))) (by
    unfold slicePick
    rw [l1]
    exact pick_rvs hr _)
  exact kRetT z9 K _ _ _ _ ((p1.trans (p2.trans (p3.trans p4))).trans pre1) X6.1 X6.2
noncomputable def opAddB (a b : AV) (os : Store) : Option (AV × Store) := onInt a fun i => alt (onAint b <| some (.aint, os)) (onInt b fun j => some (.int (i + j), os))
theorem RefE.addB {l r : Expr} {pos : Pos} {f g} (hf : RefE C n sc l f) (hg : RefE C n sc r g) : RefE C n sc (.BinOp l .Add r pos) (cBin opAddB f g) := by
  refine RefE.bin ?_ hf hg
  intro A E s hk as st L a b v x y os' Q hh hu e X hx hy K
  refine onInt_elim e fun i h1 e9 => ?_
  subst h1
  refine rvInt hx fun t => alt_elim e9 (fun e => onAint_elim e fun h2 z => ?_) fun e => onInt_elim e fun j h2 z => ?_
  · subst h2
    obtain ⟨i, u, rfl⟩ := hy
    exact wpAny_add_int (kRet z K as _ _ _ (List.prefix_refl _) X ⟨_, _, rfl⟩)
  · subst h2
    exact rvInt hy fun u => wpAny_add_int (kRet z K as _ _ _ (List.prefix_refl _) X ⟨_, rfl⟩)
end
section
variable {C : Cx} {n : Nat}
noncomputable def b10 : St → Option (AF × St) := (cThen (cRet (cComp true (cEnum (cList [(cInt 4), (cInt 12), (cInt 20), (cInt 14), (cInt 18), (cInt 8)])) (aTup2 9 7) cYes (cBin opAddB (cVar 7) (cCall oSum (cSeq [(cComp false (cIter (cSliceN (cVar 0) (cVar 9) (cInt 60) (cInt 6))) (aName 8) cYes (cBin (opP pMod) (cVar 8) (cBin (opP pPow) (cInt 10) (cInt 6))) [])]))) [0])) cEnd)
theorem s10 (O : Ok C) (P : Pg C) (P2 : Pg2 C) (B : Bn C) {A : Nat → Addr} (D : ∀ j ∈ fnIx, FnAt C (defK j) (A j)) : RefSs C n ⟨(defK 10).scope, true⟩ (defK 10).body (b10) :=
  (RefSs.cons (by exact (RefS.ret (RefE.comp (RefI.enum O (RefE.list (RefL.cons RefE.int (RefL.cons RefE.int (RefL.cons RefE.int (RefL.cons RefE.int (RefL.cons RefE.int (RefL.cons RefE.int RefL.nil))))))) (by decide +kernel) (B.no _ (by decide +kernel))) (.tup _ _ _) (fr := [0]) ⟨by decide +kernel, by decide +kernel, by decide +kernel, by decide +kernel, rfl, by decide +kernel, by decide +kernel, by decide +kernel, by decide⟩ (RefA.tup2 ⟨by decide, .inl (by decide +kernel)⟩ ⟨by decide, .inl (by decide +kernel)⟩) RefTs.nil (RefE.addB (RefE.var (k := 7) (by decide +kernel)) (RefE.callB O oSum_ok (RefL.cons (RefE.comp (RefI.val O (RefE.sliceN (RefE.varC (k := 0) (by decide +kernel)) (RefE.var (k := 9) (by decide +kernel)) RefE.int RefE.int)) (.name _ _) (fr := []) ⟨by decide +kernel, by decide +kernel, by decide +kernel, by decide +kernel, rfl, by decide +kernel, by decide +kernel, by decide +kernel, by decide⟩ (RefA.name ⟨by decide, .inl (by decide +kernel)⟩) RefTs.nil (RefE.mod (RefE.var (k := 8) (by decide +kernel)) (RefE.pow RefE.int RefE.int))) RefL.nil) (.b "sum") (by decide +kernel) (B.no _ (by decide +kernel)) rfl rfl (by decide)))))) RefSs.nil)
noncomputable def f10 : Fn := fnOf [0] b10
theorem r10 (O : Ok C) (P : Pg C) (P2 : Pg2 C) (B : Bn C) {A : Nat → Addr} (D : ∀ j ∈ fnIx, FnAt C (defK j) (A j)) : RefF C (n + 1) (A 10) f10 :=
  RefF.mkC O (D 10 (by decide)) (s10 O P P2 B D) (by intro pm code doc val; kernel_rfl) (by decide) (by first | exact .inl (by decide +kernel) | exact .inr (by decide +kernel)) (by decide +kernel) (by decide +kernel) (by decide +kernel) (by decide +kernel) (by decide +kernel)
end
noncomputable def isS {α} : Option α → Bool
  | some _ => true
  | none => false
noncomputable def heapsIn (k : Nat) : Option (AV × Store) := f10 [.par k] ⟨0, .nil⟩
theorem tt : isS (heapsIn 63) = true := by decide +kernel
end Mine
end
end
section
set_option maxRecDepth 100000
set_option maxHeartbeats 0
set_option linter.unusedVariables false
set_option linter.unusedSectionVars false
set_option autoImplicit false
set_option genSizeOf false
set_option genInjectivity false
noncomputable section
namespace Mine
open PySem PySem.W PyProof.Rows
/-! the class Whitespace -/
noncomputable def wEs (p : Params) : Array DictEntry := match (hd.heap_1 p).lookup 162 with
  | some o => match o.data with
    | .dict es _ => es
    | _ => #[]
  | none => #[]
noncomputable def wNs (p : Params) : Str → Option Value := fun x => nsFind (wEs p) x
section
variable {C : Cx} {n : Nat} {sc : Sc}
theorem wcls_at (P : Pg C) : ClsAt C.hb 163 162 (wNs C.w.params) := by
  refine ⟨⟨_, _, _, _, _, _, _, _, _, _, _, _, P.frag 163 _ rfl⟩, ⟨_, _, _, P.frag 162 _ rfl, rfl, ?_, fun _ => rfl⟩⟩
  intro e he
  simp only [List.mem_toArray, List.mem_cons, List.not_mem_nil, or_false] at he
  rcases he with h | h | h | h | h | h | h | h | h | h | h | h | h | h | h <;> subst h <;> exact ⟨_, _, rfl⟩
theorem wNs_init (p : Params) : wNs p "__init__" = some (.ref 118) := by kernel_rfl
theorem wNs_longest (p : Params) : wNs p "longest_run_of_spaces" = some (.ref 125) := by kernel_rfl
theorem wNs_indent (p : Params) : wNs p "indent_level" = some (.ref 132) := by kernel_rfl
theorem wNs_equal (p : Params) : wNs p "equal" = some (.ref 139) := by kernel_rfl
theorem wNs_less (p : Params) : wNs p "less" = some (.ref 153) := by kernel_rfl
theorem wNs_ga (p : Params) : wNs p "__getattribute__" = none := by kernel_rfl
theorem wNs_gattr (p : Params) : wNs p "__getattr__" = none := by kernel_rfl
theorem wNs_sa (p : Params) : wNs p "__setattr__" = none := by kernel_rfl
theorem atN_eq : ∀ k, k < 5 → atN k = ["raw", "n", "nt", "norm", "is_simple"].getD k "" := by decide +kernel
theorem atN_inj : ∀ a b, a < 5 → b < 5 → atN a = atN b → a = b := by
  have h : (List.range 5).all (fun a => (List.range 5).all fun b => a == b || !decide (atN a = atN b)) = true := by decide +kernel
  intro a b ha hb e
  have h1 := List.all_eq_true.mp (List.all_eq_true.mp h a (List.mem_range.mpr ha)) b (List.mem_range.mpr hb)
  simp only [e, decide_true, Bool.not_true, Bool.or_false, beq_iff_eq] at h1
  exact h1
theorem five {P : Nat → Prop} (h0 : P 0) (h1 : P 1) (h2 : P 2) (h3 : P 3) (h4 : P 4) : ∀ k, k < 5 → P k := by
  intro k hk
  rcases k with _ | _ | _ | _ | _ | k
  · exact h0
  · exact h1
  · exact h2
  · exact h3
  · exact h4
  · exact absurd hk (Nat.not_lt_of_le (Nat.le_add_left 5 k))
theorem wNs_at (p : Params) : ∀ k, k < 5 → wNs p (atN k) = none := five (by kernel_rfl) (by kernel_rfl) (by kernel_rfl) (by kernel_rfl) (by kernel_rfl)
theorem obj_at : ∀ k, k < 5 → typeLookup (.type "object") (atN k) = pure none :=
  five (by rw [typeLookup_type, builtinLookup_eq_fast]; kernel_rfl) (by rw [typeLookup_type, builtinLookup_eq_fast]; kernel_rfl) (by rw [typeLookup_type, builtinLookup_eq_fast]; kernel_rfl) (by rw [typeLookup_type, builtinLookup_eq_fast]; kernel_rfl) (by rw [typeLookup_type, builtinLookup_eq_fast]; kernel_rfl)
theorem atN_mem : ∀ k, k < 5 → atN k ∈ atL := five (by decide +kernel) (by decide +kernel) (by decide +kernel) (by decide +kernel) (by decide +kernel)
theorem RV.handed {as : List Addr} {a : AV} {v : Value} (h : RV C as a v) : handedOut v = pure v := by
  cases a with
  | none => cases h; rfl
  | bool _ => cases h; rfl
  | int _ => obtain ⟨_, rfl⟩ := h; rfl
  | str _ => obtain ⟨_, rfl⟩ := h; rfl
  | byt _ => obtain ⟨_, rfl⟩ := h; rfl
  | quo _ => obtain ⟨_, rfl⟩ := h; rfl
  | idx _ => obtain ⟨_, rfl⟩ := h; rfl
  | sym _ => obtain ⟨_, rfl⟩ := h; rfl
  | res _ _ => obtain ⟨_, rfl, _⟩ := h; rfl
  | big _ _ => obtain ⟨_, rfl, _⟩ := h; rfl
  | ref _ => obtain ⟨_, _, rfl⟩ := h; rfl
  | aint => obtain ⟨_, _, rfl⟩ := h; rfl
  | _ => obtain ⟨_, _, rfl, _⟩ := h; rfl
theorem Rel.instAt {hk : Heap} {as : List Addr} {st : St} {L : Fm} {h : Heap} (X : Rel C hk as st L h) {i j : Nat} {es : List (Nat × AV)} (e : st.os.get i = some (.inst j)) (e2 : st.os.get j = some (.idict es)) {x : Value} (hx : RV C as (.ref i) x) :
    ∃ a da mA, x = .ref a ∧ as[i]? = some a ∧ as[j]? = some da ∧ h.get? a = some { cls := .ref whtCls, dict := some da, data := .plain } ∧ h.Ns1 da mA ∧ h.Inst a 163 mA ∧ PySem.Within mA atL ∧ AtOk C as es mA := by
  obtain ⟨a, ha, rfl⟩ := hx
  obtain ⟨a', ha', da, hda, ho⟩ := X.S.obj i _ e
  rw [ha] at ha'
  cases ha'
  obtain ⟨da', hda', mA, hn, hw, hA⟩ := X.S.obj j _ e2
  rw [hda] at hda'
  cases hda'
  have hne : da ≠ a := by
    intro q
    subst q
    have : i = j := (List.getElem?_inj (List.getElem?_eq_some_iff.mp ha).1 X.S.nodup).mp (ha.trans hda.symm)
    rw [this, e2] at e
    cases e
  exact ⟨a, da, mA, rfl, ha, hda, ho, hn, ⟨_, ho, rfl, fun c => by simp, .inr ⟨da, rfl, hne, hn⟩⟩, hw, hA⟩
noncomputable def cGA (k : Nat) (f : St → Option (AV × St)) : St → Option (AV × St) := fun s => ob (f s) fun a s1 => onRef a fun i => onInst (s1.os.get i) fun j => onIdict (s1.os.get j) fun es => o1 (lk k es) fun v => some (v, s1)
theorem RefE.ga (P : Pg C) {k : Nat} (hk5 : k < 5) {x : Str} {p pos : Pos} {f} (hf : RefE C n sc (.Name x p) f) : RefE C n sc (.Attribute (.Name x p) (atN k) pos) (cGA k f) := by
  intro A env E s hk as st st' v Q R F e' X K
  refine ob_elim e' fun a s1 q1 e => onRef_elim e fun i hi e => onInst_elim e fun j q2 e => onIdict_elim e fun es q3 e => o1_elim e fun u q4 z => ?_
  subst hi
  refine Attribute_name (hf R F q1 X fun as1 h1 t1 x p1 X1 hx => ?_)
  obtain ⟨a, da, mA, rfl, ha, hda, ho, hn, I, hw, hA⟩ := X1.instAt q2 q3 hx
  obtain ⟨_, val, hm, hv⟩ := hA k _ q4
  have W := (wcls_at P).keeps fun b o e => X1.S.inBase e
  obtain ⟨nm, q, bs, sn, sub, col, dd, k0, k1, k2, k3, k5, hC⟩ := W.obj
  exact load_attr hC W.ns (wNs_ga _) (wNs_at _ k hk5) (obj_at k hk5) I hm hv.handed (kRetT z K as1 h1 _ _ p1 X1 hv)
noncomputable def cSA (k : Nat) (f g : St → Option (AV × St)) : St → Option (AF × St) := fun s => ob (f s) fun v s1 => ob (g s1) fun a s2 => onRef a fun i => onInst (s2.os.get i) fun j => onIdict (s2.os.get j) fun es => o1 (s2.os.set j (.idict (bnd k v es))) fun o => mkS .next s2 o
theorem same_obj {a da : Addr} {h h' : Heap} (ho : h.get? a = some { cls := .ref whtCls, dict := some da, data := .plain }) (hsame : ∀ o0, h.get? a = some o0 → ∃ o1, h'.get? a = some o1 ∧ o1.cls = o0.cls ∧ o1.data = o0.data ∧ o1.slots = o0.slots ∧ ∀ dx, o0.dict = some dx → o1.dict = some dx) : h'.get? a = some { cls := .ref whtCls, dict := some da, data := .plain } := by
  obtain ⟨o1, ho1, hc1, hd1, hs1, hdd⟩ := hsame _ ho
  obtain ⟨c, d, dt, sl⟩ := o1
  simp only at hc1 hd1 hs1
  have := hdd da rfl
  simp only at this
  subst hc1 hd1 hs1 this
  exact ho1
theorem RefS.sa (P : Pg C) {k : Nat} (hk5 : k < 5) {x : Str} {p pos' pos : Pos} {value : Expr} {f g} (hf : RefE C n sc value f) (hg : RefE C n sc (.Name x p) g)
    (hs : ∀ env, swapsWith value (some (.Attribute (.Name x p) (atN k) pos')) pos.line env = pure false := by intro _; rfl) : RefS C n sc (.Assign [.Attribute (.Name x p) (atN k) pos'] value pos) (cSA k f g) := by
  intro A env E s hk as st st' v Q R F e' X K
  refine ob_elim e' fun u s1 q1 e => ob_elim e fun a s2 q2 e => onRef_elim e fun i hi e => onInst_elim e fun j q3 e => onIdict_elim e fun es q4 e => o1_elim e fun o q5 z9 => ?_
  subst hi
  refine plainObj_wpAny_Assign_Attribute (hf R F q1 X fun as1 h1 t1 val p1 X1 hv => hg R F q2 X1 fun as2 h2 t2 y p2 X2 hy => ?_) (hs env)
  obtain ⟨a, da, mA, rfl, ha, hda, ho, hn, I, hw, hA⟩ := X2.instAt q3 q4 hy
  have W := (wcls_at P).keeps fun b o e => X2.S.inBase e
  obtain ⟨nm, q, bs, sn, sub, col, dd, k0, k1, k2, k3, k5, hC⟩ := W.obj
  have hne : a ≠ 163 := by
    intro z
    have := X2.S.off a (List.mem_of_getElem? ha)
    rw [z, X2.S.base _ _ (P.frag 163 _ rfl)] at this
    cases this
  refine store_attr (ns := atL) PySem.F.store_object hC W.ns (wNs_sa _) (wNs_at _ k hk5) (obj_at k hk5) hne I (fun h' tk' I' hk' hsame => ?_) hw (by decide +kernel)
  have hda' : h'.get? a = some { cls := .ref whtCls, dict := some da, data := .plain } := by
    obtain ⟨o1, ho1, hc1, hd1, hs1, hdd⟩ := hsame _ ho
    obtain ⟨c, d, dt, sl⟩ := o1
    simp only at hc1 hd1 hs1
    have := hdd da rfl
    simp only at this
    subst hc1 hd1 hs1 this
    exact ho1
  obtain ⟨o', ho', _, _, hI⟩ := I'
  rw [hda'] at ho'
  cases ho'
  rcases hI with ⟨z, _⟩ | ⟨d', hd', hne', hns'⟩
  · cases z
  cases hd'
  have hext : Heap.ExtBut da h2 h' := fun b ob hb e => by
    by_cases z : b = a
    · subst z
      rw [ho] at e
      cases e
      exact hda'
    · refine hk' b ob z (fun o0 dx h0 h1 => ?_) e
      rw [ho] at h0
      cases h0
      cases h1
      exact hb
  obtain ⟨od, hod⟩ := (⟨_, hns'.choose_spec.choose_spec.choose_spec.1⟩ : ∃ o, h'.get? da = some o)
  have X3 := X2.set (a := da) q5 hda hext hod ⟨_, hns', ?_, ?_⟩ rfl ⟨_, q4, rfl⟩
  · exact kRetT z9 K as2 h' tk' _ (p1.trans p2) X3 rfl
  · intro y hy
    by_cases z : y = atN k
    · rw [z]; exact atN_mem k hk5
    · refine hw y ?_
      dsimp only at hy
      rw [if_neg z] at hy
      exact hy
  · intro m v' e
    rw [lk_bnd] at e
    by_cases z : m = k
    · subst z
      rw [if_pos rfl] at e
      cases e
      exact ⟨hk5, val, if_pos rfl, hv.mono p2⟩
    · rw [if_neg z] at e
      obtain ⟨m5, val', e1, e2⟩ := hA m v' e
      exact ⟨m5, val', by show (if atN m = atN k then some val else mA (atN m)) = _; rw [if_neg fun w => z (atN_inj m k m5 hk5 w)]; exact e1, e2⟩
end
end Mine
end
end
section
set_option maxRecDepth 100000
set_option maxHeartbeats 0
set_option linter.unusedVariables false
set_option linter.unusedSectionVars false
set_option autoImplicit false
set_option genSizeOf false
set_option genInjectivity false
noncomputable section
namespace Mine
open PySem PySem.W PyProof.Rows
section
variable {C : Cx} {n : Nat} {sc : Sc}
/-! Whitespace.S, Whitespace.T -/
noncomputable def cCls (c : Nat) : St → Option (AV × St) := fun s => some (.str [c], s)
theorem RefE.cls (O : Ok C) (P : Pg C) (P2 : Pg2 C) {c : Nat} {nme : Str} {p pos : Pos} {u : Tok} (hx : sc.s.names.lookup (Str.ofString "Whitespace") = some .globalImplicit)
    (hf : ∀ p, findCls (hd.heap_1 p) (.ref 163) (.type "type") nme = some (.val (.str ⟨#[c]⟩ u))) (hr : ∀ p, readsIn (hd.heap_1 p) 163 (.type "type") = true) :
    RefE C n sc (.Attribute (.Name (Str.ofString "Whitespace") p) nme pos) (cCls c) := by
  intro A env E s hk as st st' v Q R F e' X K
  cases e'
  refine Attribute_name (nameG O X F hx P2.ws (by decide) ?_)
  exact cls_value (P.frag.keeps fun b o e => X.S.inBase e) (hr _) (hf _) rfl (K as s.heap _ _ (List.prefix_refl _) X ⟨u, rfl⟩)
theorem wcls_reads (p : Params) : readsIn (hd.heap_1 p) 163 (.type "type") = true := by kernel_rfl
theorem wcls_S (p : Params) : findCls (hd.heap_1 p) (.ref 163) (.type "type") "S" = some (.val (.str ⟨#[32]⟩ 423)) := by kernel_rfl
theorem wcls_T (p : Params) : findCls (hd.heap_1 p) (.ref 163) (.type "type") "T" = some (.val (.str ⟨#[9]⟩ 424)) := by kernel_rfl
/-! a = b = c = value -/
noncomputable def cAsg3 (k1 k2 k3 : Nat) (f : St → Option (AV × St)) : St → Option (AF × St) := fun s => ob (f s) fun v s1 => o1 (aName k1 v s1) fun s2 => o1 (aName k2 v s2) fun s3 => o1 (aName k3 v s3) fun s4 => some (.next, s4)
theorem RefS.asg3 {k1 k2 k3 : Nat} {value : Expr} {p1 p2 p3 pos : Pos} {f} (hf : RefE C n sc value f) (h1 : Wr sc k1) (h2 : Wr sc k2) (h3 : Wr sc k3)
    (he : ∀ env, (assignEach [.Name (nm k1) p1, .Name (nm k2) p2, .Name (nm k3) p3] env).map (·.2) = [assign (.Name (nm k1) p1) env, assign (.Name (nm k2) p2) env, assign (.Name (nm k3) p3) env] := by intro _; rfl)
    (hw : ∀ env, swappedStores [.Name (nm k1) p1, .Name (nm k2) p2, .Name (nm k3) p3] value env = pure none := by intro _; rfl) :
    RefS C n sc (.Assign [.Name (nm k1) p1, .Name (nm k2) p2, .Name (nm k3) p3] value pos) (cAsg3 k1 k2 k3 f) := by
  intro A env E s hk as st st' v Q R F e' X K
  refine ob_elim e' fun u s1 q1 e => o1_elim e fun s2 q2 e => o1_elim e fun s3 q3 e => o1_elim e fun s4 q4 z => ?_
  refine wpAny_Assign_three (hf R F q1 X fun as1 t1 tk1 val p1 X1 hv => ?_) (he env) (hw env)
  refine RefA.name h1 R F q2 X1 hv fun t2 tk2 X2 => ?_
  refine RefA.name h2 R F q3 X2 hv fun t3 tk3 X3 => ?_
  exact RefA.name h3 R F q4 X3 hv fun t4 tk4 X4 => kRetT z K as1 t4 tk4 _ p1 X4 rfl
/-! * -/
noncomputable def opMul (a b : AV) (os : Store) : Option (AV × Store) := onInt b fun y => alt
  (onInt a fun x => bT (smallZ x) <| bT (smallZ y) <| some (.int (x * y), os))
  (onRef a fun i => onList (os.get i) fun l => on1 l fun v => bT (smallZ y) <| os.new (.list (List.replicate y.toNat v)))
theorem rvs_replicate {as : List Addr} {v : AV} {x : Value} (h : RV C as v x) (k : Nat) : RVs C as (List.replicate k v) (List.replicate k x) := by
  induction k with
  | zero => rfl
  | succ k ih => exact ⟨x, _, rfl, h, ih⟩
theorem rep_flat (x : Value) (k : Nat) : ∀ acc : Array Value, (List.foldl (fun a b => a ++ b) acc (List.replicate k #[x])).toList = acc.toList ++ List.replicate k x := by
  induction k with
  | zero => intro acc; simp
  | succ k ih =>
    intro acc
    rw [List.replicate_succ, List.foldl_cons, ih]
    simp [List.replicate_succ]
theorem rvs1L {as : List Addr} {a : AV} {x : Array Value} (hx : RVs C as [a] x.toList) : ∃ w, x = #[w] ∧ RV C as a w := by
  obtain ⟨w, r, e, hw, hr⟩ := hx
  cases hr
  exact ⟨w, Array.toList_inj.mp e, hw⟩
theorem RefE.mul {l r : Expr} {pos : Pos} {f g} (hf : RefE C n sc l f) (hg : RefE C n sc r g) : RefE C n sc (.BinOp l .Mult r pos) (cBin opMul f g) := by
  refine RefE.bin ?_ hf hg
  intro A E s hk as st L a b v x y os' Q hh hu e X hx hy K
  refine onInt_elim e fun yi hb e9 => ?_
  subst hb
  refine rvInt hy fun ty => ?_
  refine alt_elim e9 (fun e => onInt_elim e fun xi h1 e => bT_elim e fun q1 e => bT_elim e fun q2 z => ?_) fun e => onRef_elim e fun i h1 e => onList_elim e fun l q1 e => on1_elim e fun u hl1 e => bT_elim e fun q2 z => ?_
  · subst h1
    have b1 := smallZ_le q1
    exact rvInt hx fun t => PyProof.Rows.mul_int (kRet z K as _ _ _ (List.prefix_refl _) X ⟨_, rfl⟩) (.of_left (intBits_le_64 (by omega) (by omega)))
  · subst h1 hl1
    have b2 := smallZ_le q2
    refine X.listE q1 hx fun a items m ha hl hr => ?_
    obtain ⟨w, rfl, hrv⟩ := rvs1L hr
    have X1 := X.pushList z (items := (List.foldl (fun x1 x2 => x1 ++ x2) #[] (List.replicate (if (#[w] : Array Value).isEmpty = true then 0 else yi.toNat) #[w]))) (by
      rw [if_neg (by simp), rep_flat]
      exact rvs_replicate hrv _)
    exact wpAny_binaryOp_repeat_ref (T := "list") (U := "int") (by decide) ⟨_, hl, rfl⟩ (fun s' => typeIs_int s' yi ty) noFill_list_mul F.fills_int_mul F.slot_int_rmul repeat_list F.slot_int_index.lookup
      (call_meets F.slot_int_rmul (typeIs_int s yi ty) F.entry_int_rmul (F.args_int_rmul_2 _ _) (int___rmul___int_list yi ty a #[w] m)
        ⟨hl, rfl, ⟨_, hl, rfl⟩, call_meets F.slot_list_mul ⟨_, hl, rfl⟩ F.entry_list_mul (F.args_list_mul_2 _ _)
          (AutoListH.list___mul___list_int_3 a #[w] m yi ty (by simp [Builtin.List.listFitsIndex]; omega) (by simp; omega) (by simp [Builtin.List.listTooLong, sizeLine]; omega))
          ⟨hl, K _ _ _ _ pre1 X1.1 X1.2⟩⟩)
/-! tuple(xs) -/
noncomputable def oTuple (a : List AV) (os : Store) : Option (AV × Store) := on1 a fun a => onRef a fun i => onList (os.get i) fun xs => bT (Nat.ble xs.length 2000) <| os.new (.tup xs)
theorem oTuple_ok : CallOk C (fun vs => call (.type "tuple") vs) oTuple := by
  intro A E s hk as st L a v x os' Q hh hu e X hx K
  refine on1_elim e fun x1 h1 e => onRef_elim e fun i h2 e => onList_elim e fun xs q1 e => bT_elim e fun q2 z => ?_
  subst h1 h2
  refine rvs1 hx fun y hy => X.listE q1 hy fun a items m ha hl hr => ?_
  refine call_tuple_list hl.isList (fun h' hk' => ?_) (len_s q2 hr.length)
  have X2 := (X.ext hk').pushTup z hr
  exact K _ _ s.toks _ pre1 X2.1 X2.2
end
end Mine
end
end
section
set_option maxRecDepth 100000
set_option maxHeartbeats 0
set_option linter.unusedVariables false
set_option linter.unusedSectionVars false
set_option autoImplicit false
set_option genSizeOf false
set_option genInjectivity false
noncomputable section
namespace Mine
open PySem PySem.W PyProof.Rows
open PySem.SeqAt
section
variable {C : Cx} {n : Nat} {sc : Sc}
noncomputable def oLe (a b : AV) (_ : Store) : Option Bool := onInt a fun i => onInt b fun j => some (Z.leB i j)
theorem oLe_ok : CmpOk C (compareOp .LtE) oLe := by
  intro A E s hk as st L a b v x y Q hh hu e X hx hy K
  refine onInt_elim e fun i hi e => onInt_elim e fun j hj z => ?_
  subst hi hj
  exact rvInt hx fun t => rvInt hy fun u => PyProof.Rows.le_int (leB_dec i j ▸ kRetB z K s.heap s.toks X)
/-! two norms compared -/
noncomputable def eqIL : List Int → List Int → Bool
  | [], [] => true
  | a :: r, b :: t => eqI a b && eqIL r t
  | _, _ => false
theorem eqIL_eq : ∀ a b, eqIL a b = decide (a = b)
  | [], [] => by simp [eqIL]
  | [], _ :: _ => by simp [eqIL]
  | _ :: _, [] => by simp [eqIL]
  | a :: r, b :: t => by
    unfold eqIL
    rw [eqIL_eq r t, eqI_eq]
    by_cases h : a = b <;> simp [h]
theorem range_all : ∀ (a b : List Int), ((List.range (min a.length b.length)).all (fun j => a.getD j 0 == b.getD j 0) && a.length == b.length) = decide (a = b) := by
  intro a b
  rw [Bool.eq_iff_iff]
  simp only [Bool.and_eq_true, List.all_eq_true, List.mem_range, beq_iff_eq, decide_eq_true_eq]
  constructor
  · rintro ⟨h, hl⟩
    apply List.ext_getElem hl
    intro i h1 h2
    have := h i (by omega)
    simpa [List.getD_eq_getElem?_getD, h1, h2] using this
  · rintro rfl
    exact ⟨fun _ _ => rfl, rfl⟩
theorem intsA_map {xs : List AV} : ∀ {ns : List Int}, intsA xs = some ns → xs = ns.map .int := by
  induction xs with
  | nil => intro ns h; cases h; rfl
  | cons a r ih => intro ns h; exact onInt_elim h fun i hi e => o1_elim e fun l q z => by cases z; rw [ih q, hi]; rfl
theorem Rel.tup2 {hk : Heap} {as : List Addr} {st : St} {L : Fm} {h : Heap} (X : Rel C hk as st L h) {i : Nat} {a b : AV} (e : st.os.get i = some (.tup [a, b])) {x : Value} (hx : RV C as (.ref i) x) :
    ∃ l v w, x = .ref l ∧ h.IsTuple l #[v, w] ∧ RV C as a v ∧ RV C as b w := by
  obtain ⟨l, items, rfl, ha, ho, hr⟩ := X.tupAt e hx
  obtain ⟨v, w, rfl, hv, hw⟩ := rvs2L hr
  exact ⟨l, v, w, rfl, ⟨_, ho, rfl, _, rfl⟩, hv, hw⟩
noncomputable def oNorm (a b : AV) (os : Store) : Option Bool := onRef a fun i => onRef b fun j => onTup (os.get i) fun l => onPair l fun c t => onRef c fun c => onInt t fun t => onTup (os.get j) fun l2 => onPair l2 fun d u => onRef d fun d => onInt u fun u =>
  onTup (os.get c) fun xs => onTup (os.get d) fun ys => o1 (intsA xs) fun ns => o1 (intsA ys) fun ms => some (eqIL ns ms && eqI t u)
theorem ints_inj {ns ms : List Int} (h : ns.map AV.int = ms.map AV.int) : ns = ms := by
  have := congrArg (List.map (fun a => match a with | AV.int i => i | _ => 0)) h
  simpa [List.map_map, Function.comp_def] using this
theorem intsTup_at {s : Shared} {hk : Heap} {as : List Addr} {st : St} {L : Fm} {A : Around} (hu : A.units + 20 < cLine) (X : Rel C hk as st L s.heap) {c d : Nat} {ns ms : List Int} (q1 : st.os.get c = some (.tup (ns.map .int))) (q2 : st.os.get d = some (.tup (ms.map .int)))
    {x y : Value} (hx : RV C as (.ref c) x) (hy : RV C as (.ref d) y) : EqAt A s x y (decide (ns = ms)) := by
  obtain ⟨a, items, rfl, ha, ho, hr⟩ := X.tupAt q1 hx
  obtain ⟨b, items2, rfl, hb, ho2, hr2⟩ := X.tupAt q2 hy
  by_cases hab : a = b
  · subst hab
    have : c = d := (List.getElem?_inj (List.getElem?_eq_some_iff.mp ha).1 X.S.nodup).mp (ha.trans hb.symm)
    subst this
    rw [q1] at q2
    have hi : ns.map AV.int = ms.map AV.int := by injection q2 with q; injection q
    rw [ints_inj hi, decide_eq_true rfl]
    exact EqAt.same _
  · refine EqAt.of_refs hab ?_
    have l1 : items.size = ns.length := by have := hr.length; simpa using this
    have l2 : items2.size = ms.length := by have := hr2.length; simpa using this
    have := RcAt.tuples (s := s) (A := A) (e := fun j => ns.getD j 0 == ms.getD j 0) ⟨_, ho, rfl, _, rfl⟩ ⟨_, ho2, rfl, _, rfl⟩ (by omega) (fun j h1 h2 => ?_)
    · rw [l1, l2, range_all] at this
      exact this
    · obtain ⟨v, hv, ⟨t, rfl⟩⟩ := hr.get (i := j) (a := .int (ns.getD j 0)) (by rw [List.getElem?_map, List.getD_eq_getElem?_getD]; rw [List.getElem?_eq_getElem (by omega)]; rfl)
      obtain ⟨w, hw, ⟨u, rfl⟩⟩ := hr2.get (i := j) (a := .int (ms.getD j 0)) (by rw [List.getElem?_map, List.getD_eq_getElem?_getD]; rw [List.getElem?_eq_getElem (by omega)]; rfl)
      rw [Array.getElem?_toList, Array.getElem?_eq_getElem h1] at hv
      rw [Array.getElem?_toList, Array.getElem?_eq_getElem h2] at hw
      rw [Option.some.inj hv, Option.some.inj hw]
      exact EqAt.int_int _ _ _ _
theorem two_all {v1 v2 w1 w2 : Value} {x y : Bool} : ((List.range (min (#[v1, v2] : Array Value).size (#[w1, w2] : Array Value).size)).all (fun j => match j with | 0 => x | _ => y) && (#[v1, v2] : Array Value).size == (#[w1, w2] : Array Value).size) = (x && y) := by
  show ((List.range 2).all _ && true) = _
  rw [show List.range 2 = [0, 1] from rfl]
  simp
theorem oNorm_ok : CmpOk C (compareOp .Eq) oNorm := by
  intro A E s hk as st L a b v x y Q hh hu e X hx hy K
  refine onRef_elim e fun i hi e => onRef_elim e fun j hj e => onTup_elim e fun l1 q1 e => onPair_elim e fun c' t' g1 e => onRef_elim e fun c g2 e => onInt_elim e fun t g3 e => onTup_elim e fun l2 q2 e => onPair_elim e fun d' u' g4 e => onRef_elim e fun d g5 e => onInt_elim e fun u g6 e =>
    onTup_elim e fun xs q3 e => onTup_elim e fun ys q4 e => o1_elim e fun ns q5 e => o1_elim e fun ms q6 z => ?_
  subst hi hj g1 g2 g3 g4 g5 g6
  rw [intsA_map q5] at q3
  rw [intsA_map q6] at q4
  obtain ⟨l, v1, v2, rfl, ht, h1, ⟨t1, rfl⟩⟩ := X.tup2 q1 hx
  obtain ⟨m, w1, w2, rfl, hm, g1, ⟨u1, rfl⟩⟩ := X.tup2 q2 hy
  have := RcAt.tuples (s := s) (A := A) (e := fun j => match j with | 0 => decide (ns = ms) | _ => t == u) ht hm (Nat.lt_of_le_of_lt (Nat.le_add_right _ _) hu) (fun j h1' h2' => ?_)
  · refine this prog C.w E Q ?_
    have := kRetB z K s.heap s.toks X
    rw [eqIL_eq, eqI_eq] at this
    rw [two_all]
    exact this
  · match j, h1', h2' with
    | 0, _, _ => exact intsTup_at (A := A.in1) (by show A.units + 1 + 20 < cLine; omega) X q3 q4 h1 g1
    | 1, _, _ => exact EqAt.int_int _ _ _ _
/-! methods -/
theorem call_meth_gen {M : Model} {A : Around} {E : Value → Shared → Prop} {s : Shared} {env : Env} {o : Expr} {name : Str} {apos pos : Pos} {args : List Expr} {Q : Value → Shared → Prop}
    (hbase : attributeBase o name env (eval o env) = eval o env)
    (hfew : ((backTo pos (starEach args env)).all (fun x => !x.1) && (backToKw pos (keywordEach [] env)).all (fun x => x.1.isSome)
      && decide (args.length + ([] : List Keyword).length + (if ([] : List Keyword).isEmpty then 0 else 1) < 30)) = true)
    (hline : (apos.endLine == pos.line) = true)
    (h : wpAny M A (eval o env) (fun ov s₁ => ∃ f : Value, (∀ (A' : Around) (E' : Value → Shared → Prop) (pl : Sem Bool) (Q' : Value × List Value → Shared → Prop), Q' (f, [ov]) s₁ → wpAny M A' (getMethod ov name pl) Q' E' s₁) ∧
      wpAny M A (callWith pos f [ov] (backTo pos (starEach args env)) []) Q E s₁) E s) :
    wpAny M A (eval (.Call (.Attribute o name apos) args [] pos) env) Q E s := by
  rw [arm_eval_Call, hbase]
  refine wpAny_bind (wpAny_mono h (fun ov s₁ h₁ => ?_) fun _ _ e => e)
  obtain ⟨f, hm, hc⟩ := h₁
  refine wpAny_bind (wpAny_standAt ?_)
  have hform : methodCallForm (args.length + ([] : List Keyword).length) (backTo pos (starEach args env)) (backToKw pos (keywordEach [] env)) = true := hfew
  have hpos : methodCallPos true o env apos pos = pure pos := by unfold methodCallPos; simp [hline]
  unfold methodCall
  rw [hform]
  refine wpAny_bind (wpAny_holding (hm _ _ _ _ ?_))
  exact wpAny_bind (wpAny_of_eq hpos hc)
theorem Rel.getMethod (P : Pg C) {hk : Heap} {as : List Addr} {st : St} {L : Fm} {s : Shared} (X : Rel C hk as st L s.heap) {x f : Addr} {of : Obj} {mA : Str → Option Value} {name : Str} {y : Option Value} {M A E} {pl : Sem Bool} {Q : Value × List Value → Shared → Prop} (hM : M = model prog C.w)
    (hf : wNs C.w.params name = some (.ref f)) (hfo : C.hb.get? f = some of) (hfc : of.cls = .type "function") (I : s.heap.Inst x 163 mA) (hw : PySem.Within mA atL) (hn : name ∉ atL) (hB : typeLookup (.type "object") name = pure y) (h : Q (.ref f, [.ref x]) s) :
    wpAny M A (getMethod (.ref x) name pl) Q E s := by
  subst hM
  have W := (wcls_at P).keeps fun b o e => X.S.inBase e
  obtain ⟨nm, q, bs, sn, sub, col, dd, k0, k1, k2, k3, k5, hC⟩ := W.obj
  have hsh : mA name = none := Classical.byContradiction fun z => hn (hw name z)
  obtain ⟨hp, g, d, tk, os⟩ := s
  exact method_of hC W.ns (wNs_ga _) (wNs_gattr _) hf (X.S.inBase hfo) hfc hB I hsh h
/-- a function of the class's table -/
structure MAt (C : Cx) (d : DefRec) (q : Str) (a : Addr) : Prop where
  ns : wNs C.w.params d.name = some (.ref a)
  off : d.name ∉ atL
  obj : ∃ y, typeLookup (.type "object") d.name = pure y
  fn : ∃ o pm code doc, C.hb.get? a = some o ∧ o.cls = .type "function" ∧ o.data = .func (methDef d.name q d.params d.body d.scope pm code doc) ∧ C.hb.CodeRec code q
noncomputable def cCallM (fn : Fn) (f : St → Option (AV × St)) (g : St → Option (List AV × St)) : St → Option (AV × St) := fun s => ob (f s) fun a s1 => onRef a fun i => onInst (s1.os.get i) fun j => onIdict (s1.os.get j) fun _ => ob (g s1) fun args s2 =>
  ob (fn (.ref i :: args) s2.os) fun v o => mkS v s2 o
theorem RefE.callM (O : Ok C) (P : Pg C) {d : DefRec} {q : Str} {fa : Addr} (D : MAt C d q fa) {fn : Fn} {nme : Str} {recv e : Expr} {es : List Expr} {apos pos : Pos} {f fs} (hop : RefF C n fa fn) (hf : RefE C n sc recv f) (hfs : RefL C n sc (e :: es) (cSeq fs)) (hg : d.name = nme)
    (hline : (apos.endLine == pos.line) = true)
    (hbase : ∀ env, attributeBase recv nme env (eval recv env) = eval recv env := by intro _; rfl)
    (hfew : ∀ env, ((backTo pos (starEach (e :: es) env)).all (fun x => !x.1) && (backToKw pos (keywordEach [] env)).all (fun x => x.1.isSome)
      && decide ((e :: es).length + ([] : List Keyword).length + (if ([] : List Keyword).isEmpty then 0 else 1) < 30)) = true := by intro _; rfl)
    (he : ∀ env, starEach (e :: es) env = (false, eval e env) :: starEach es env := by intro _; rfl) :
    RefE C n sc (.Call (.Attribute recv nme apos) (e :: es) [] pos) (cCallM fn f (cSeq fs)) := by
  intro A env E s hk as st st' u Q R F e' X K
  refine ob_elim e' fun a s1 q1 e => onRef_elim e fun i hi e => onInst_elim e fun j q2 e => onIdict_elim e fun dd q3 e => ob_elim e fun args s2 q4 e => ob_elim e fun v o q5 z => ?_
  subst hi
  subst hg
  obtain ⟨ob, pm, code, doc, ho, hoc, hdt, hcr⟩ := D.fn
  obtain ⟨yy, hyy⟩ := D.obj
  refine call_meth_gen (hbase env) (hfew env) hline (hf R F q1 X fun as1 h1 t1 x p1 X1 hx => ?_)
  obtain ⟨a, da, mA, rfl, ha, hda, hoa, hn, I, hw, hA⟩ := X1.instAt q2 q3 hx
  refine ⟨.ref fa, fun A' E' pl Q' hq => X1.getMethod P rfl D.ns ho hoc I hw D.off hyy hq, ?_⟩
  refine callWith_meth (h₀ := C.hb) hdt ho (hfs pos R F q4 X1 fun as2 h2 t2 xs p2 X2 hxs => ⟨fun b o e => X2.S.inBase e, ?_⟩) (he env)
  exact hop R q5 X2.S.wide ⟨_, _, rfl, hx.mono p2, hxs⟩ fun as3 h3 t3 val p3 Y hv => kRetT z K as3 h3 t3 val (p1.trans (p2.trans p3)) (X2.callee p3 Y) hv
theorem RefE.callM0 (O : Ok C) (P : Pg C) {d : DefRec} {q : Str} {fa : Addr} (D : MAt C d q fa) {fn : Fn} {nme : Str} {recv : Expr} {apos pos : Pos} {f} (hop : RefF C n fa fn) (hf : RefE C n sc recv f) (hg : d.name = nme)
    (hline : (apos.endLine == pos.line) = true)
    (hbase : ∀ env, attributeBase recv nme env (eval recv env) = eval recv env := by intro _; rfl) :
    RefE C n sc (.Call (.Attribute recv nme apos) [] [] pos) (cCallM fn f (cSeq [])) := by
  intro A env E s hk as st st' u Q R F e' X K
  refine ob_elim e' fun a s1 q1 e => onRef_elim e fun i hi e => onInst_elim e fun j q2 e => onIdict_elim e fun dd q3 e => ob_elim e fun args s2 q4 e => ob_elim e fun v o q5 z => ?_
  subst hi
  cases q4
  subst hg
  obtain ⟨ob, pm, code, doc, ho, hoc, hdt, hcr⟩ := D.fn
  obtain ⟨yy, hyy⟩ := D.obj
  refine call_meth_gen (hbase env) rfl hline (hf R F q1 X fun as1 h1 t1 x p1 X1 hx => ?_)
  obtain ⟨a, da, mA, rfl, ha, hda, hoa, hn, I, hw, hA⟩ := X1.instAt q2 q3 hx
  refine ⟨.ref fa, fun A' E' pl Q' hq => X1.getMethod P rfl D.ns ho hoc I hw D.off hyy hq, ?_⟩
  refine callWith_meth0 hdt (X1.S.inBase ho) ?_
  exact hop R q5 X1.S.wide ⟨_, _, rfl, hx, rfl⟩ fun as3 h3 t3 val p3 Y hv => kRetT z K as3 h3 t3 val (p1.trans p3) (X1.callee p3 Y) hv
theorem RefF.mkM (O : Ok C) {d : DefRec} {q : Str} {fa : Addr} (D : MAt C d q fa) {ks : List Nat} {f} (hf : RefSs C n ⟨d.scope, true⟩ d.body f)
    (hb : ∀ (s : Shared) (pm code doc : Value) (vals : List Value), vals.length = ks.length → BindsTo s (methDef d.name q d.params d.body d.scope pm code doc) ⟨vals, []⟩ ((ks.map nm).zip vals))
    (hks : ∀ k ∈ ks, k < 65) (hnd : ks.Nodup) (hkl : ∀ k ∈ ks, d.scope.names.lookup (nm k) = some .local) (hcell : ∀ x ∈ d.scope.names, x.2 ≠ .cell) (hco : d.scope.isCoroutine = false) (hgen : d.scope.isGenerator = false) (hk : d.scope.kind = .function) :
    RefF C (n + 1) fa (fnOf ks f) := by
  intro A E s hk' as os os' args vals v Q R e X hx K
  obtain ⟨ob, pm, code, doc, ho, hoc, hdt, hcr⟩ := D.fn
  have hlen : vals.length = ks.length := hx.length.trans (fnOf_len e)
  refine wpAny_call (enter O rfl rfl rfl rfl rfl (fun b o e => X.inBase e) ho hdt hcr (hb s pm code doc vals hlen) hkl hcell hco hgen hk R fun env h₀ tk R' F _ _ _ fL hns hext => ?_)
  refine fnOf_run (Q := Q) O hf e R' F (fL ▸ frame_rel X hx hks hnd hext hns) (fun as1 h1 t1 val p1 Y1 hv => K as1 h1 t1 val p1 (X.back Y1) hv) ?_ ?_
  · intro _ _ q
    exact q
  · intro _ q
    exact q
end
end Mine
end
end
section
set_option maxRecDepth 100000
set_option maxHeartbeats 400000
set_option linter.unusedVariables false
set_option linter.unusedSectionVars false
set_option autoImplicit false
set_option genSizeOf false
set_option genInjectivity false
noncomputable section
namespace Mine
open PySem PySem.W PyProof.Rows
/-! the methods of Whitespace -/
noncomputable def defM (j : Nat) : DefRec := recOf ((bodyOf ((vw.main.body).getD 9 (.Pass ⟨0, 0, 0, 0⟩))).getD j (.Pass ⟨0, 0, 0, 0⟩))
section
variable {C : Cx} {n : Nat} {sc : Sc}
theorem mat_init (P : Pg C) : MAt C (defM 1) (Str.ofString "Whitespace.__init__") 118 :=
  ⟨wNs_init _, by decide +kernel, ⟨some (.builtin "object.__init__"), by rw [typeLookup_type, builtinLookup_eq_fast]; kernel_rfl⟩, _, _, _, _, P.frag 118 _ rfl, rfl, rfl, 117, _, _, _, rfl, P.frag 117 _ rfl, rfl, rfl⟩
theorem mat_longest_run_of_spaces (P : Pg C) : MAt C (defM 2) (Str.ofString "Whitespace.longest_run_of_spaces") 125 :=
  ⟨wNs_longest _, by decide +kernel, ⟨none, by rw [typeLookup_type, builtinLookup_eq_fast]; kernel_rfl⟩, _, _, _, _, P.frag 125 _ rfl, rfl, rfl, 124, _, _, _, rfl, P.frag 124 _ rfl, rfl, rfl⟩
theorem mat_indent_level (P : Pg C) : MAt C (defM 3) (Str.ofString "Whitespace.indent_level") 132 :=
  ⟨wNs_indent _, by decide +kernel, ⟨none, by rw [typeLookup_type, builtinLookup_eq_fast]; kernel_rfl⟩, _, _, _, _, P.frag 132 _ rfl, rfl, rfl, 131, _, _, _, rfl, P.frag 131 _ rfl, rfl, rfl⟩
theorem mat_equal (P : Pg C) : MAt C (defM 4) (Str.ofString "Whitespace.equal") 139 :=
  ⟨wNs_equal _, by decide +kernel, ⟨none, by rw [typeLookup_type, builtinLookup_eq_fast]; kernel_rfl⟩, _, _, _, _, P.frag 139 _ rfl, rfl, rfl, 138, _, _, _, rfl, P.frag 138 _ rfl, rfl, rfl⟩
theorem mat_less (P : Pg C) : MAt C (defM 6) (Str.ofString "Whitespace.less") 153 :=
  ⟨wNs_less _, by decide +kernel, ⟨none, by rw [typeLookup_type, builtinLookup_eq_fast]; kernel_rfl⟩, _, _, _, _, P.frag 153 _ rfl, rfl, rfl, 152, _, _, _, rfl, P.frag 152 _ rfl, rfl, rfl⟩
/-! break; S, T = (a, b) -/
noncomputable def cBrk : St → Option (AF × St) := fun s => some (.brk, s)
theorem RefS.brk {pos : Pos} : RefS C n sc (.Break pos) cBrk := by
  intro A env E s hk as st st' v Q R F e X K
  cases e
  show wpAny _ _ (do standAt pos; pure Flow.brk) _ _ _
  exact wpAny_bind (wpAny_standAt (wpAny_pure (K as s.heap s.toks _ (List.prefix_refl _) X rfl)))
noncomputable def aSwp2 (k j : Nat) : AV → St → Option St := fun v s => onRef v fun i => onTup (s.os.get i) fun xs => onPair xs fun x y => match s with
  | ⟨l, o⟩ => bndK j y l fun l' => bndK k x l' fun l'' => some ⟨l'', o⟩
theorem pos_name (x : Str) (p : Pos) : (Expr.Name x p).pos = p := rfl
theorem folded_att (u : Expr) (a : Str) (p : Pos) : foldedForSure 8 (.Attribute u a p) = false := by kernel_rfl
theorem alone_att (u : Expr) (a : Str) (p : Pos) : constantsAlone 8 (.Attribute u a p) = false := by kernel_rfl
theorem swapped_of {env : Env} {k j : Nat} {p1 p2 p vp p3 p4 : Pos} {x1 x2 : Nat} {u w : Expr} {a b : Str} (h : env.scope = sc.s) (hk : sc.s.kind = .function)
    (he : (sc.s.names.lookup (nm k) == some .local && sc.s.names.lookup (nm j) == some .local && p1.line == p2.line) = true) (hne : nm k ≠ nm j) :
    swappedStores [.Tuple [.Name (nm k) p1, .Name (nm j) p2] x1 p] (.Tuple [.Attribute u a p3, .Attribute w b p4] x2 vp) env = pure (some [nm k, nm j]) := by
  simp only [Bool.and_eq_true, beq_iff_eq] at he
  obtain ⟨⟨e1, e2⟩, e3⟩ := he
  have hbk : env.blockKind = .function := by
    unfold Env.blockKind
    rw [h, hk]
    rfl
  have k1 : env.kindOf (nm k) = some .local := by unfold Env.kindOf; rw [h]; exact e1
  have k2 : env.kindOf (nm j) = some .local := by unfold Env.kindOf; rw [h]; exact e2
  unfold swappedStores
  simp [hbk, k1, k2, e3, pos_name, List.filterMap, folded_att, alone_att, List.eraseDups_cons, Ne.symm hne]
theorem RefS.swap2 {k j : Nat} {p1 p2 p pos : Pos} {x1 : Nat} {value : Expr} {f} (hf : RefE C n sc value f) (hk : Wr sc k) (hj : Wr sc j)
    (hw : ∀ env : Env, env.scope = sc.s → swappedStores [.Tuple [.Name (nm k) p1, .Name (nm j) p2] x1 p] value env = pure (some [nm k, nm j]))
    (hs : ∀ env, swapsWithSole [.Tuple [.Name (nm k) p1, .Name (nm j) p2] x1 p] value pos.line env = pure false := by intro _; rfl) :
    RefS C n sc (.Assign [.Tuple [.Name (nm k) p1, .Name (nm j) p2] x1 p] value pos) (cAsg (aSwp2 k j) f) := by
  intro A env E s hk' as st st' v Q R F e X K
  refine ob_elim e fun u s1 q1 e => o1_elim e fun s2 q2 z9 => ?_
  refine Assign_Tuple_swapped (hf R F q1 X fun as1 h1 t1 x p1 X1 hx => ?_) (hs env) (hw env F.eqv)
  refine onRef_elim q2 fun i hi e => onTup_elim e fun xs q e => onPair_elim e fun y z hxy e8 => ?_
  subst hi hxy
  refine X1.tupE q hx fun a items ha hl' hr => ?_
  obtain ⟨u, w, rfl, hu, hw2⟩ := rvs2L hr
  refine unpackItems_tuple (items := #[u, w]) R.handled ⟨_, hl', rfl, 0, rfl⟩ fun h' hs => ?_
  show wpAny _ _ (assignInOrder [bindName env (nm j), bindName env (nm k)] [w, u]) _ _ _
  refine assignInOrder_cons (bindName_ (storeAny F hj (X1.temp hs) hw2 fun h2 t2 X3 => ?_))
  exact assignInOrder_cons (bindName_ (storeAny F hk X3 hu fun h3 t3 X4 => assignInOrder_nil (kRetT z9 K as1 h3 t3 _ p1 (Option.some.inj (bnd2 e8) ▸ X4) rfl)))
noncomputable def b_init : St → Option (AF × St) := (cThen (cSA 0 (cVar 51) (cVar 50)) (cThen (cAsg (aSwp2 52 53) (cTup [(cCls 32), (cCls 9)])) (cThen (cAsg (aName 43) (cList [])) (cThen (cAsg3 54 55 56 (cInt 0)) (cThen (cFor false (cIter (cGA 0 (cVar 50))) (aName 57) (cThen (cIf (cCmp oEqF (cVar 57) (cVar 52)) (cThen (cAsg (aName 55) (cBin opAddF (cVar 55) (cInt 1))) (cThen (cAsg (aName 54) (cBin opAddF (cVar 54) (cInt 1))) cEnd)) (cThen (cIf (cCmp oEqF (cVar 57) (cVar 53)) (cThen (cAsg (aName 55) (cBin opAddF (cVar 55) (cInt 1))) (cThen (cAsg (aName 56) (cBin opAddF (cVar 56) (cInt 1))) (cThen (cIf (cCmp oGe (cVar 54) (cCall oLen (cSeq [(cVar 43)]))) (cThen (cAsg (aName 43) (cBin opAddF (cVar 43) (cBin opMul (cList [(cInt 0)]) (cBin opAddF (cBin opSubF (cVar 54) (cCall oLen (cSeq [(cVar 43)]))) (cInt 1))))) cEnd) cEnd) (cThen (cPut (cBin opAddF (cItemF (cVar 43) (cVar 54)) (cInt 1)) (cVar 43) (cVar 54)) (cThen (cAsg (aName 54) (cInt 0)) cEnd))))) (cThen cBrk cEnd)) cEnd)) cEnd)) (cThen (cSA 1 (cVar 55) (cVar 50)) (cThen (cSA 2 (cVar 56) (cVar 50)) (cThen (cSA 3 (cTup [(cCall oTuple (cSeq [(cVar 43)])), (cVar 54)]) (cVar 50)) (cThen (cSA 4 (cEB (cCmp oLe (cCall oLen (cSeq [(cVar 43)])) (cInt 1))) (cVar 50)) cEnd)))))))))
theorem s_init (O : Ok C) (P : Pg C) (P2 : Pg2 C) (B : Bn C) : RefSs C n ⟨(defM 1).scope, true⟩ (defM 1).body b_init :=
  (RefSs.cons (by exact (RefS.sa P (k := 0) (by decide) (RefE.var (k := 51) (by decide +kernel)) (RefE.var (k := 50) (by decide +kernel)))) (RefSs.cons (by exact (RefS.swap2 (k := 52) (j := 53) (RefE.tup (RefL.cons (RefE.cls O P P2 (by decide +kernel) wcls_S wcls_reads) (RefL.cons (RefE.cls O P P2 (by decide +kernel) wcls_T wcls_reads) RefL.nil))) ⟨by decide, .inl (by decide +kernel)⟩ ⟨by decide, .inl (by decide +kernel)⟩ (by intro env h; exact swapped_of h (by decide +kernel) (by decide +kernel) (by decide +kernel)))) (RefSs.cons (by exact (RefS.asg (RefE.list RefL.nil) ⟨by decide, .inl (by decide +kernel)⟩)) (RefSs.cons (by exact (RefS.asg3 (k1 := 54) (k2 := 55) (k3 := 56) RefE.int ⟨by decide, .inl (by decide +kernel)⟩ ⟨by decide, .inl (by decide +kernel)⟩ ⟨by decide, .inl (by decide +kernel)⟩)) (RefSs.cons (by exact (RefS.for (RefI.val O (RefE.ga P (k := 0) (by decide) (RefE.var (k := 50) (by decide +kernel)))) (.name _ _) (RefA.name ⟨by decide, .inl (by decide +kernel)⟩) (RefSs.cons (by exact (RefS.ite (RefB.cmp oEqF_ok (RefE.var (k := 57) (by decide +kernel)) (RefE.var (k := 52) (by decide +kernel)) rfl) (RefSs.cons (by exact (RefS.asg (RefE.addF (RefE.var (k := 55) (by decide +kernel)) RefE.int) ⟨by decide, .inl (by decide +kernel)⟩)) (RefSs.cons (by exact (RefS.asg (RefE.addF (RefE.var (k := 54) (by decide +kernel)) RefE.int) ⟨by decide, .inl (by decide +kernel)⟩)) RefSs.nil)) (RefSs.cons (by exact (RefS.ite (RefB.cmp oEqF_ok (RefE.var (k := 57) (by decide +kernel)) (RefE.var (k := 53) (by decide +kernel)) rfl) (RefSs.cons (by exact (RefS.asg (RefE.addF (RefE.var (k := 55) (by decide +kernel)) RefE.int) ⟨by decide, .inl (by decide +kernel)⟩)) (RefSs.cons (by exact (RefS.asg (RefE.addF (RefE.var (k := 56) (by decide +kernel)) RefE.int) ⟨by decide, .inl (by decide +kernel)⟩)) (RefSs.cons (by exact (RefS.ite (RefB.cmp oGe_ok (RefE.var (k := 54) (by decide +kernel)) (RefE.callB O (oLen_ok O) (RefL.cons (RefE.var (k := 43) (by decide +kernel)) RefL.nil) (.b "len") (by decide +kernel) (B.no _ (by decide +kernel)) rfl rfl (by decide)) rfl) (RefSs.cons (by exact (RefS.asg (RefE.addF (RefE.var (k := 43) (by decide +kernel)) (RefE.mul (RefE.list (RefL.cons RefE.int RefL.nil)) (RefE.addF (RefE.subF (RefE.var (k := 54) (by decide +kernel)) (RefE.callB O (oLen_ok O) (RefL.cons (RefE.var (k := 43) (by decide +kernel)) RefL.nil) (.b "len") (by decide +kernel) (B.no _ (by decide +kernel)) rfl rfl (by decide))) RefE.int))) ⟨by decide, .inl (by decide +kernel)⟩)) RefSs.nil) RefSs.nil)) (RefSs.cons (by exact (RefS.put (RefE.addF (RefE.itemF (RefE.var (k := 43) (by decide +kernel)) (RefE.var (k := 54) (by decide +kernel))) RefE.int) (RefE.var (k := 43) (by decide +kernel)) (RefE.var (k := 54) (by decide +kernel)))) (RefSs.cons (by exact (RefS.asg RefE.int ⟨by decide, .inl (by decide +kernel)⟩)) RefSs.nil))))) (RefSs.cons (by exact RefS.brk) RefSs.nil))) RefSs.nil))) RefSs.nil))) (RefSs.cons (by exact (RefS.sa P (k := 1) (by decide) (RefE.var (k := 55) (by decide +kernel)) (RefE.var (k := 50) (by decide +kernel)))) (RefSs.cons (by exact (RefS.sa P (k := 2) (by decide) (RefE.var (k := 56) (by decide +kernel)) (RefE.var (k := 50) (by decide +kernel)))) (RefSs.cons (by exact (RefS.sa P (k := 3) (by decide) (RefE.tup (RefL.cons (RefE.callB O oTuple_ok (RefL.cons (RefE.var (k := 43) (by decide +kernel)) RefL.nil) (.t "tuple") (by decide +kernel) (B.no _ (by decide +kernel)) rfl rfl (by decide)) (RefL.cons (RefE.var (k := 54) (by decide +kernel)) RefL.nil))) (RefE.var (k := 50) (by decide +kernel)))) (RefSs.cons (by exact (RefS.sa P (k := 4) (by decide) (RefE.cmp oLe_ok (RefE.callB O (oLen_ok O) (RefL.cons (RefE.var (k := 43) (by decide +kernel)) RefL.nil) (.b "len") (by decide +kernel) (B.no _ (by decide +kernel)) rfl rfl (by decide)) RefE.int rfl) (RefE.var (k := 50) (by decide +kernel)))) RefSs.nil)))))))))
noncomputable def f_init : Fn := fnOf [50, 51] b_init
theorem r_init (O : Ok C) (P : Pg C) (P2 : Pg2 C) (B : Bn C) : RefF C (n + 1) 118 f_init :=
  RefF.mkM O (mat_init P) (s_init O P P2 B) (by intro s pm code doc vals h; obtain ⟨a0, a1, rfl⟩ := len2 h; exact BindsTo.of_eq (by kernel_rfl)) (by decide) (by decide) (by decide +kernel) (by decide +kernel) (by decide +kernel) (by decide +kernel) (by decide +kernel)
noncomputable def b_longest_run_of_spaces : St → Option (AF × St) := (cThen (cAsg (aTup2 43 63) (cGA 3 (cVar 50))) (cThen (cRet (cCall oMax (cSeq [(cBin opSubF (cCall oLen (cSeq [(cVar 43)])) (cInt 1)), (cVar 63)]))) cEnd))
theorem s_longest_run_of_spaces (O : Ok C) (P : Pg C) (P2 : Pg2 C) (B : Bn C) : RefSs C n ⟨(defM 2).scope, true⟩ (defM 2).body b_longest_run_of_spaces :=
  (RefSs.cons (by exact (RefS.asgT (RefE.ga P (k := 3) (by decide) (RefE.var (k := 50) (by decide +kernel))) (RefA.tup2 ⟨by decide, .inl (by decide +kernel)⟩ ⟨by decide, .inl (by decide +kernel)⟩))) (RefSs.cons (by exact (RefS.ret (RefE.callB O oMax_ok (RefL.cons (RefE.subF (RefE.callB O (oLen_ok O) (RefL.cons (RefE.var (k := 43) (by decide +kernel)) RefL.nil) (.b "len") (by decide +kernel) (B.no _ (by decide +kernel)) rfl rfl (by decide)) RefE.int) (RefL.cons (RefE.var (k := 63) (by decide +kernel)) RefL.nil)) (.b "max") (by decide +kernel) (B.no _ (by decide +kernel)) rfl rfl (by decide)))) RefSs.nil))
noncomputable def f_longest_run_of_spaces : Fn := fnOf [50] b_longest_run_of_spaces
theorem r_longest_run_of_spaces (O : Ok C) (P : Pg C) (P2 : Pg2 C) (B : Bn C) : RefF C (n + 1) 125 f_longest_run_of_spaces :=
  RefF.mkM O (mat_longest_run_of_spaces P) (s_longest_run_of_spaces O P P2 B) (by intro s pm code doc vals h; obtain ⟨a0, rfl⟩ := len1 h; exact BindsTo.of_eq (by kernel_rfl)) (by decide) (by decide) (by decide +kernel) (by decide +kernel) (by decide +kernel) (by decide +kernel) (by decide +kernel)
noncomputable def b_indent_level : St → Option (AF × St) := (cThen (cAsg (aTup2 43 63) (cGA 3 (cVar 50))) (cThen (cAsg (aName 60) (cInt 0)) (cThen (cFor false (cRange2 (cVar 62) (cCall oLen (cSeq [(cVar 43)]))) (aName 61) (cThen (cAsg (aName 60) (cBin opAddF (cVar 60) (cBin opMul (cBin (opP pDiv) (cVar 61) (cVar 62)) (cItemF (cVar 43) (cVar 61))))) cEnd)) (cThen (cRet (cBin opAddF (cVar 63) (cBin opMul (cVar 62) (cBin opAddF (cVar 60) (cGA 2 (cVar 50)))))) cEnd))))
theorem s_indent_level (O : Ok C) (P : Pg C) (P2 : Pg2 C) (B : Bn C) : RefSs C n ⟨(defM 3).scope, true⟩ (defM 3).body b_indent_level :=
  (RefSs.cons (by exact (RefS.asgT (RefE.ga P (k := 3) (by decide) (RefE.var (k := 50) (by decide +kernel))) (RefA.tup2 ⟨by decide, .inl (by decide +kernel)⟩ ⟨by decide, .inl (by decide +kernel)⟩))) (RefSs.cons (by exact (RefS.asg RefE.int ⟨by decide, .inl (by decide +kernel)⟩)) (RefSs.cons (by exact (RefS.for (RefI.range2 O (RefE.var (k := 62) (by decide +kernel)) (RefE.callB O (oLen_ok O) (RefL.cons (RefE.var (k := 43) (by decide +kernel)) RefL.nil) (.b "len") (by decide +kernel) (B.no _ (by decide +kernel)) rfl rfl (by decide)) (by decide +kernel) (B.no _ (by decide +kernel))) (.name _ _) (RefA.name ⟨by decide, .inl (by decide +kernel)⟩) (RefSs.cons (by exact (RefS.asg (RefE.addF (RefE.var (k := 60) (by decide +kernel)) (RefE.mul (RefE.floordiv (RefE.var (k := 61) (by decide +kernel)) (RefE.var (k := 62) (by decide +kernel))) (RefE.itemF (RefE.var (k := 43) (by decide +kernel)) (RefE.var (k := 61) (by decide +kernel))))) ⟨by decide, .inl (by decide +kernel)⟩)) RefSs.nil))) (RefSs.cons (by exact (RefS.ret (RefE.addF (RefE.var (k := 63) (by decide +kernel)) (RefE.mul (RefE.var (k := 62) (by decide +kernel)) (RefE.addF (RefE.var (k := 60) (by decide +kernel)) (RefE.ga P (k := 2) (by decide) (RefE.var (k := 50) (by decide +kernel)))))))) RefSs.nil))))
noncomputable def f_indent_level : Fn := fnOf [50, 62] b_indent_level
theorem r_indent_level (O : Ok C) (P : Pg C) (P2 : Pg2 C) (B : Bn C) : RefF C (n + 1) 132 f_indent_level :=
  RefF.mkM O (mat_indent_level P) (s_indent_level O P P2 B) (by intro s pm code doc vals h; obtain ⟨a0, a1, rfl⟩ := len2 h; exact BindsTo.of_eq (by kernel_rfl)) (by decide) (by decide) (by decide +kernel) (by decide +kernel) (by decide +kernel) (by decide +kernel) (by decide +kernel)
noncomputable def b_equal : St → Option (AF × St) := (cThen (cRet (cEB (cCmp oNorm (cGA 3 (cVar 50)) (cGA 3 (cVar 58))))) cEnd)
theorem s_equal (O : Ok C) (P : Pg C) (P2 : Pg2 C) (B : Bn C) : RefSs C n ⟨(defM 4).scope, true⟩ (defM 4).body b_equal :=
  (RefSs.cons (by exact (RefS.ret (RefE.cmp oNorm_ok (RefE.ga P (k := 3) (by decide) (RefE.var (k := 50) (by decide +kernel))) (RefE.ga P (k := 3) (by decide) (RefE.var (k := 58) (by decide +kernel))) rfl))) RefSs.nil)
noncomputable def f_equal : Fn := fnOf [50, 58] b_equal
theorem r_equal (O : Ok C) (P : Pg C) (P2 : Pg2 C) (B : Bn C) : RefF C (n + 1) 139 f_equal :=
  RefF.mkM O (mat_equal P) (s_equal O P P2 B) (by intro s pm code doc vals h; obtain ⟨a0, a1, rfl⟩ := len2 h; exact BindsTo.of_eq (by kernel_rfl)) (by decide) (by decide) (by decide +kernel) (by decide +kernel) (by decide +kernel) (by decide +kernel) (by decide +kernel)
noncomputable def b_less : St → Option (AF × St) := (cThen (cIf (cCmp oGe (cGA 1 (cVar 50)) (cGA 1 (cVar 58))) (cThen (cRet (cBool false)) cEnd) cEnd) (cThen (cIf (cAndB (cTrF (cGA 4 (cVar 50))) (cTrF (cGA 4 (cVar 58)))) (cThen (cRet (cEB (cCmp oLe (cGA 2 (cVar 50)) (cGA 2 (cVar 58))))) cEnd) cEnd) (cThen (cAsg (aName 55) (cBin opAddF (cCall oMax (cSeq [(cCallM f_longest_run_of_spaces (cVar 50) (cSeq [])), (cCallM f_longest_run_of_spaces (cVar 58) (cSeq []))])) (cInt 1))) (cThen (cFor false (cRange2 (cInt 2) (cBin opAddF (cVar 55) (cInt 1))) (aName 59) (cThen (cIf (cCmp oGe (cCallM f_indent_level (cVar 50) (cSeq [(cVar 59)])) (cCallM f_indent_level (cVar 58) (cSeq [(cVar 59)]))) (cThen (cRet (cBool false)) cEnd) cEnd) cEnd)) (cThen (cRet (cBool true)) cEnd)))))
theorem s_less (O : Ok C) (P : Pg C) (P2 : Pg2 C) (B : Bn C) : RefSs C (n + 1) ⟨(defM 6).scope, true⟩ (defM 6).body b_less :=
  (RefSs.cons (by exact (RefS.ite (RefB.cmp oGe_ok (RefE.ga P (k := 1) (by decide) (RefE.var (k := 50) (by decide +kernel))) (RefE.ga P (k := 1) (by decide) (RefE.var (k := 58) (by decide +kernel))) rfl) (RefSs.cons (by exact (RefS.ret RefE.bool)) RefSs.nil) RefSs.nil)) (RefSs.cons (by exact (RefS.ite (RefB.and (RefB.valF (RefE.ga P (k := 4) (by decide) (RefE.var (k := 50) (by decide +kernel)))) (RefB.valF (RefE.ga P (k := 4) (by decide) (RefE.var (k := 58) (by decide +kernel))))) (RefSs.cons (by exact (RefS.ret (RefE.cmp oLe_ok (RefE.ga P (k := 2) (by decide) (RefE.var (k := 50) (by decide +kernel))) (RefE.ga P (k := 2) (by decide) (RefE.var (k := 58) (by decide +kernel))) rfl))) RefSs.nil) RefSs.nil)) (RefSs.cons (by exact (RefS.asg (RefE.addF (RefE.callB O oMax_ok (RefL.cons (RefE.callM0 O P (mat_longest_run_of_spaces P) (r_longest_run_of_spaces O P P2 B) (RefE.var (k := 50) (by decide +kernel)) rfl rfl) (RefL.cons (RefE.callM0 O P (mat_longest_run_of_spaces P) (r_longest_run_of_spaces O P P2 B) (RefE.var (k := 58) (by decide +kernel)) rfl rfl) RefL.nil)) (.b "max") (by decide +kernel) (B.no _ (by decide +kernel)) rfl rfl (by decide)) RefE.int) ⟨by decide, .inl (by decide +kernel)⟩)) (RefSs.cons (by exact (RefS.for (RefI.range2 O RefE.int (RefE.addF (RefE.var (k := 55) (by decide +kernel)) RefE.int) (by decide +kernel) (B.no _ (by decide +kernel))) (.name _ _) (RefA.name ⟨by decide, .inl (by decide +kernel)⟩) (RefSs.cons (by exact (RefS.ite (RefB.cmp oGe_ok (RefE.callM O P (mat_indent_level P) (r_indent_level O P P2 B) (RefE.var (k := 50) (by decide +kernel)) (RefL.cons (RefE.var (k := 59) (by decide +kernel)) RefL.nil) rfl rfl) (RefE.callM O P (mat_indent_level P) (r_indent_level O P P2 B) (RefE.var (k := 58) (by decide +kernel)) (RefL.cons (RefE.var (k := 59) (by decide +kernel)) RefL.nil) rfl rfl) rfl) (RefSs.cons (by exact (RefS.ret RefE.bool)) RefSs.nil) RefSs.nil)) RefSs.nil))) (RefSs.cons (by exact (RefS.ret RefE.bool)) RefSs.nil)))))
noncomputable def f_less : Fn := fnOf [50, 58] b_less
theorem r_less (O : Ok C) (P : Pg C) (P2 : Pg2 C) (B : Bn C) : RefF C ((n + 1) + 1) 153 f_less :=
  RefF.mkM O (mat_less P) (s_less O P P2 B) (by intro s pm code doc vals h; obtain ⟨a0, a1, rfl⟩ := len2 h; exact BindsTo.of_eq (by kernel_rfl)) (by decide) (by decide) (by decide +kernel) (by decide +kernel) (by decide +kernel) (by decide +kernel) (by decide +kernel)
end
end Mine
end
end
section
set_option maxRecDepth 100000
set_option maxHeartbeats 0
set_option linter.unusedVariables false
set_option linter.unusedSectionVars false
set_option autoImplicit false
set_option genSizeOf false
set_option genInjectivity false
noncomputable section
namespace Mine
open PySem PySem.W PyProof.Rows
/-! stores made of a list -/
noncomputable def addAll (s : Store) (l : List AO) : Option Store := List.rec (motive := fun _ => Store → Option Store) (fun s => some s) (fun o _ ih s => ob (s.new o) fun _ s' => ih s') l s
theorem addAll_step {s s' : Store} {o : AO} {l : List AO} {v : AV} {N : Nat} {F : Nat → Option AO} (h : ∀ i, s.n ≤ i → s.get i = none) (q : s.new o = some (v, s'))
    (H : (∀ i, s'.n ≤ i → s'.get i = none) → N = s'.n + l.length ∧ (∀ i, i < s'.n → F i = s'.get i) ∧ ∀ i, F (s'.n + i) = l[i]?) : N = s.n + (o :: l).length ∧ (∀ i, i < s.n → F i = s.get i) ∧ ∀ i, F (s.n + i) = (o :: l)[i]? := by
  obtain ⟨_, hn, hg, ho⟩ := Store.new_eq q
  obtain ⟨i1, i2, i3⟩ := H fun i hi => by rw [ho i (by omega)]; exact h i (by omega)
  refine ⟨by rw [i1, hn, List.length_cons]; omega, fun i hi => by rw [i2 i (by omega), ho i (by omega)], fun i => ?_⟩
  cases i with
  | zero => rw [Nat.add_zero, i2 _ (by omega), hg]; rfl
  | succ i => rw [show s.n + (i + 1) = s'.n + i by omega, i3]; rfl
theorem addAll_eq (l : List AO) : ∀ (s os : Store), (∀ i, s.n ≤ i → s.get i = none) → addAll s l = some os → os.n = s.n + l.length ∧ (∀ i, i < s.n → os.get i = s.get i) ∧ ∀ i, os.get (s.n + i) = l[i]? := by
  induction l with
  | nil =>
    intro s os h e
    cases e
    exact ⟨rfl, fun _ _ => rfl, fun i => by rw [h _ (by omega)]; rfl⟩
  | cons o l ih =>
    intro s os h e
    exact ob_elim e fun v s' q e => addAll_step h q fun h' => ih s' os h' e
noncomputable def st0 : Store := ⟨0, .nil⟩
theorem addAll_st0 {l : List AO} {os : Store} (e : addAll st0 l = some os) : os.n = l.length ∧ ∀ i, os.get i = l[i]? := by
  obtain ⟨a, _, c⟩ := addAll_eq l st0 os (fun i _ => rfl) e
  exact ⟨by rw [a]; exact Nat.zero_add _, fun i => by have := c i; rwa [show st0.n + i = i from Nat.zero_add i] at this⟩
theorem RelS.ofAll {C : Cx} {hk h : Heap} {as : List Addr} {l : List AO} {os : Store} (e : addAll st0 l = some os) (hb : ∀ b o, C.hb.get? b = some o → hk.get? b = some o) (hkp : ∀ b o, hk.get? b = some o → h.get? b = some o)
    (hlen : as.length = l.length) (hoff : ∀ a ∈ as, hk.get? a = none) (hnd : as.Nodup) (hlive : ∀ a ∈ as, ∃ o, h.get? a = some o) (hobj : ∀ (i : Nat) (o : AO), l[i]? = some o → ∃ a, as[i]? = some a ∧ Real C as h a o)
    (hw : ∀ (i d i1 i2 i3 : Nat), l[i]? ≠ some (AO.wht d i1 i2 i3)) : RelS C hk as os h := by
  obtain ⟨hn, hg⟩ := addAll_st0 e
  exact ⟨hb, hkp, hoff, hnd, by rw [hlen, hn], hlive, fun i o q => hobj i o (by rw [← hg]; exact q), fun i d i1 i2 i3 q => absurd (by rw [← hg]; exact q) (hw i d i1 i2 i3)⟩
section
variable {C : Cx} {n : Nat} {sc : Sc}
/-! four objects of a Whitespace, told openly -/
structure W4 (C : Cx) (h : Heap) (a a1 a2 a3 : Addr) (d : Nat) : Prop where
  o : h.get? a = some { cls := .ref whtCls, dict := some a1, data := .plain }
  ns : ∃ mA, h.Ns1 a1 mA ∧ PySem.Within mA atL ∧ (∃ t, mA (atN 1) = some (.int (wN C.cs d) t)) ∧ (∃ t, mA (atN 2) = some (.int (wNt C.cs d) t)) ∧ mA (atN 3) = some (.ref a2) ∧ mA (atN 4) = some (.bool (Nat.ble (wCount C.cs d).length 1))
  tp : ∃ t, h.get? a2 = some { cls := .type "tuple", dict := none, data := .seq #[.ref a3, .int (wTr C.cs d) t] 0, slots := #[] }
  cn : ∃ items, h.get? a3 = some { cls := .type "tuple", dict := none, data := .seq items 0, slots := #[] } ∧ RVs C [] ((wCount C.cs d).map fun n => .int (.ofNat n)) items.toList
theorem rvs_ints {as as' : List Addr} (l : List Nat) : ∀ {vs : List Value}, RVs C as (l.map fun n => .int (.ofNat n)) vs → RVs C as' (l.map fun n => .int (.ofNat n)) vs := by
  induction l with
  | nil => intro vs h; exact h
  | cons a l ih => intro vs h; exact h.elim fun v h => h.elim fun r h => ⟨v, r, h.1, h.2.1, ih h.2.2⟩
theorem W4.put {h : Heap} {a a1 a2 a3 : Addr} {d j2 : Nat} {as : List Addr} {es : List (Nat × AV)} {mA : Str → Option Value} {t : Tok} {it3 : Array Value} (ho : h.get? a = some { cls := .ref whtCls, dict := some a1, data := .plain }) (hn : h.Ns1 a1 mA) (hw : PySem.Within mA atL) (hA : AtOk C as es mA)
    (k1 : lk 1 es = some (.int (wN C.cs d))) (k2 : lk 2 es = some (.int (wNt C.cs d))) (k3 : lk 3 es = some (.ref j2)) (k4 : lk 4 es = some (.bool (Nat.ble (wCount C.cs d).length 1))) (e2 : as[j2]? = some a2)
    (hi : h.get? a2 = some { cls := .type "tuple", dict := none, data := .seq #[.ref a3, .int (wTr C.cs d) t] 0, slots := #[] }) (hi3 : h.get? a3 = some { cls := .type "tuple", dict := none, data := .seq it3 0, slots := #[] }) (hr3 : RVs C as ((wCount C.cs d).map fun n => .int (.ofNat n)) it3.toList) : W4 C h a a1 a2 a3 d := by
  refine ⟨ho, ⟨mA, hn, hw, ?_, ?_, ?_, ?_⟩, ⟨t, hi⟩, ⟨it3, hi3, rvs_ints _ hr3⟩⟩
  · exact (hA 1 _ k1).2.elim fun val z => z.2.elim fun t hv => ⟨t, hv ▸ z.1⟩
  · exact (hA 2 _ k2).2.elim fun val z => z.2.elim fun t hv => ⟨t, hv ▸ z.1⟩
  · obtain ⟨_, val, hm, x, hx, hv⟩ := hA 3 _ k3
    rw [e2] at hx; cases hx
    exact hv ▸ hm
  · exact (hA 4 _ k4).2.elim fun val z => (show val = _ from z.2) ▸ z.1
theorem W4.atOk {n nt : Int} {sm : Bool} {t1 t2 : Tok} {a2 : Addr} {k : Nat} {as : List Addr} {mA : Str → Option Value} (h1 : mA (atN 1) = some (.int n t1)) (h2 : mA (atN 2) = some (.int nt t2)) (h3 : mA (atN 3) = some (.ref a2)) (h4 : mA (atN 4) = some (.bool sm)) (e2 : as[k]? = some a2) :
    AtOk C as [(1, .int n), (2, .int nt), (3, .ref k), (4, .bool sm)] mA := by
  intro j v e
  rw [lk_cons, lk_cons, lk_cons, lk_cons] at e
  by_cases q1 : j = 1
  · subst q1; cases e; exact ⟨by decide, _, h1, t1, rfl⟩
  rw [if_neg q1] at e
  by_cases q2 : j = 2
  · subst q2; cases e; exact ⟨by decide, _, h2, t2, rfl⟩
  rw [if_neg q2] at e
  by_cases q3 : j = 3
  · subst q3; cases e; exact ⟨by decide, _, h3, a2, e2, rfl⟩
  rw [if_neg q3] at e
  by_cases q4 : j = 4
  · subst q4; cases e; exact ⟨by decide, _, h4, rfl⟩
  rw [if_neg q4] at e; cases e
theorem W4.real {h : Heap} {a a1 a2 a3 : Addr} {d : Nat} (W : W4 C h a a1 a2 a3 d) {as : List Addr} {k : Nat} (e0 : as[k]? = some a) (e1 : as[k + 1]? = some a1) (e2 : as[k + 2]? = some a2) (e3 : as[k + 3]? = some a3) :
    ∀ i o, (whtObj C.cs d k)[i]? = some o → ∃ x, as[k + i]? = some x ∧ Real C as h x o := by
  intro i o ho
  match i, ho with
  | 0, ho => cases ho; exact ⟨a, e0, a1, e1, W.o⟩
  | 1, ho =>
    cases ho
    obtain ⟨mA, hn, hw, ⟨t1, h1⟩, ⟨t2, h2⟩, h3, h4⟩ := W.ns
    exact ⟨a1, e1, mA, hn, hw, W4.atOk h1 h2 h3 h4 e2⟩
  | 2, ho =>
    cases ho
    obtain ⟨t, ht⟩ := W.tp
    exact ⟨a2, e2, _, ht, _, _, rfl, ⟨a3, e3, rfl⟩, _, [], rfl, ⟨t, rfl⟩, rfl⟩
  | 3, ho =>
    cases ho
    obtain ⟨items, hi, hr⟩ := W.cn
    exact ⟨a3, e3, items, hi, rvs_ints _ hr⟩
  | _ + 4, ho => cases ho
theorem W4.of {h : Heap} {a a1 a2 a3 : Addr} {d : Nat} {as : List Addr} {k : Nat} (e0 : as[k]? = some a) (e1 : as[k + 1]? = some a1) (e2 : as[k + 2]? = some a2) (e3 : as[k + 3]? = some a3)
    (H : ∀ i o, (whtObj C.cs d k)[i]? = some o → ∃ x, as[k + i]? = some x ∧ Real C as h x o) : W4 C h a a1 a2 a3 d := by
  obtain ⟨x0, y0, da, z0, r0⟩ := H 0 _ rfl
  rw [Nat.add_zero, e0] at y0; cases y0
  rw [e1] at z0; cases z0
  obtain ⟨x1, y1, mA, hn, hw, hA⟩ := H 1 _ rfl
  rw [e1] at y1; cases y1
  obtain ⟨x2, y2, items, hi, hr⟩ := H 2 _ rfl
  rw [e2] at y2; cases y2
  obtain ⟨x3, y3, items3, hi3, hr3⟩ := H 3 _ rfl
  rw [e3] at y3; cases y3
  obtain ⟨u, v, rfl, ⟨a3', ea3, hu⟩, ⟨tv, hv⟩⟩ := rvs2L hr
  rw [e3] at ea3; cases ea3
  subst hu hv
  exact W4.put r0 hn hw hA rfl rfl rfl rfl e2 hi hi3 hr3
theorem whtAt_iff {h : Heap} {a a1 a2 a3 : Addr} {d : Nat} : WhtAt C h a a1 a2 a3 d ↔ W4 C h a a1 a2 a3 d :=
  ⟨fun W => W4.of (as := [a, a1, a2, a3]) (k := 0) rfl rfl rfl rfl fun i o e => by rw [Nat.zero_add]; exact W i o e, fun W i o e => by
    obtain ⟨x, y, z⟩ := W.real (as := [a, a1, a2, a3]) (k := 0) rfl rfl rfl rfl i o e
    rw [Nat.zero_add] at y; exact ⟨x, y, z⟩⟩
theorem W4.at {h h' : Heap} {a a1 a2 a3 : Addr} {d : Nat} (W : W4 C h a a1 a2 a3 d) (k : ∀ x ∈ [a, a1, a2, a3], ∀ o, h.get? x = some o → h'.get? x = some o) : W4 C h' a a1 a2 a3 d :=
  whtAt_iff.mp ((whtAt_iff.mpr W).at k)
end
/-! objects told apart -/
noncomputable def isU (x : Option Unit) : Bool := match x with
  | some _ => true
  | none => false
theorem isU_elim {x : Option Unit} {P : Prop} (h : isU x = true) (k : x = some () → P) : P := by
  cases x with
  | none => cases h
  | some u => exact k rfl
noncomputable def avB (a b : AV) : Bool := isU (alt (onInt a fun i => onInt b fun j => bT (eqI i j) (some ())) (alt (onRef a fun i => onRef b fun j => bT (Nat.beq i j) (some ())) (onBool a fun i => onBool b fun j => bT (i == j) (some ()))))
theorem avB_eq {a b : AV} (h : avB a b = true) : a = b :=
  isU_elim h fun e => alt_elim e (fun e => onInt_elim e fun i h1 e => onInt_elim e fun j h2 e => bT_elim e fun q _ => by rw [h1, h2, eqI_is q])
    fun e => alt_elim e (fun e => onRef_elim e fun i h1 e => onRef_elim e fun j h2 e => bT_elim e fun q _ => by rw [h1, h2, Nat.eq_of_beq_eq_true q]) fun e => onBool_elim e fun i h1 e => onBool_elim e fun j h2 e => bT_elim e fun q _ => by rw [h1, h2, eq_of_beq q]
noncomputable def avsB (a b : List AV) : Bool := match a with
  | [] => match b with
    | [] => true
    | _ :: _ => false
  | x :: r => match b with
    | [] => false
    | y :: t => avB x y && avsB r t
theorem avsB_eq {a : List AV} : ∀ {b : List AV}, avsB a b = true → a = b := by
  induction a with
  | nil => intro b h; cases b with
    | nil => rfl
    | cons y t => cases h
  | cons x r ih => intro b h; cases b with
    | nil => cases h
    | cons y t =>
      have h' : (avB x y && avsB r t) = true := h
      rw [Bool.and_eq_true] at h'
      rw [avB_eq h'.1, ih h'.2]
noncomputable def entB (a b : List (Nat × AV)) : Bool := match a with
  | [] => match b with
    | [] => true
    | _ :: _ => false
  | x :: r => match b with
    | [] => false
    | y :: t => Nat.beq x.1 y.1 && avB x.2 y.2 && entB r t
theorem entB_eq {a : List (Nat × AV)} : ∀ {b : List (Nat × AV)}, entB a b = true → a = b := by
  induction a with
  | nil => intro b h; cases b with
    | nil => rfl
    | cons y t => cases h
  | cons x r ih => intro b h; cases b with
    | nil => cases h
    | cons y t =>
      have h' : (Nat.beq x.1 y.1 && avB x.2 y.2 && entB r t) = true := h
      rw [Bool.and_eq_true, Bool.and_eq_true] at h'
      rw [ih h'.2, show x = y from Prod.ext (Nat.eq_of_beq_eq_true h'.1.1) (avB_eq h'.1.2)]
noncomputable def aoB (a : Option AO) (b : AO) : Bool := isU (alt (onInst a fun i => onInst (some b) fun j => bT (Nat.beq i j) (some ())) (alt (onIdict a fun e => onIdict (some b) fun f => bT (entB e f) (some ())) (onTup a fun e => onTup (some b) fun f => bT (avsB e f) (some ()))))
theorem aoB_eq {a : Option AO} {b : AO} (h : aoB a b = true) : a = some b :=
  isU_elim h fun e => alt_elim e (fun e => onInst_elim e fun i h1 e => onInst_elim e fun j h2 e => bT_elim e fun q _ => by rw [h1, h2, Nat.eq_of_beq_eq_true q])
    fun e => alt_elim e (fun e => onIdict_elim e fun i h1 e => onIdict_elim e fun j h2 e => bT_elim e fun q _ => by rw [h1, h2, entB_eq q]) fun e => onTup_elim e fun i h1 e => onTup_elim e fun j h2 e => bT_elim e fun q _ => by rw [h1, h2, avsB_eq q]
/-- the store bears the list, from place k on -/
noncomputable def hasAll (os : Store) : Nat → List AO → Bool
  | _, [] => true
  | k, o :: r => aoB (os.get k) o && hasAll os (Nat.succ k) r
theorem hasAll_get {os : Store} {l : List AO} : ∀ {k : Nat}, hasAll os k l = true → ∀ {i : Nat} {o : AO}, l[i]? = some o → os.get (k + i) = some o := by
  induction l with
  | nil => intro k _ i o e; simp at e
  | cons a r ih =>
    intro k h i o e
    have h' : (aoB (os.get k) a && hasAll os (Nat.succ k) r) = true := h
    rw [Bool.and_eq_true] at h'
    cases i with
    | zero => cases e; exact aoB_eq h'.1
    | succ i =>
      rw [show k + (i + 1) = Nat.succ k + i by omega]
      exact ih h'.2 (by simpa using e)
end Mine
end
end
section
set_option maxRecDepth 100000
set_option maxHeartbeats 0
set_option linter.unusedVariables false
set_option linter.unusedSectionVars false
set_option autoImplicit false
set_option genSizeOf false
set_option genInjectivity false
noncomputable section
namespace Mine
open PySem PySem.W PyProof.Rows
section
variable {C : Cx} {n : Nat} {sc : Sc}
theorem next4 {i k : Nat} (h : i < k) (c1 : k ≠ i + 1) (c2 : k ≠ i + 2) (c3 : k ≠ i + 3) : i + 4 ≤ k :=
  Nat.lt_of_le_of_ne (Nat.lt_of_le_of_ne (Nat.lt_of_le_of_ne h (Ne.symm c1)) (Ne.symm c2)) (Ne.symm c3)
theorem apart4 {i k : Nat} (h : i ≠ k) (c1 : k ≠ i + 1) (c2 : k ≠ i + 2) (c3 : k ≠ i + 3) (d1 : i ≠ k + 1) (d2 : i ≠ k + 2) (d3 : i ≠ k + 3) : i + 4 ≤ k ∨ k + 4 ≤ i :=
  (Nat.lt_or_gt_of_ne h).elim (fun z => .inl (next4 z c1 c2 c3)) fun z => .inr (next4 z d1 d2 d3)
theorem RelS.whtOf {hk h : Heap} {as : List Addr} {os : Store} (R : RelS C hk as os h) {i d i1 i2 i3 : Nat} (e : os.get i = some (.wht d i1 i2 i3)) :
    i1 = i + 1 ∧ i2 = i + 2 ∧ i3 = i + 3 ∧ os.get (i + 1) = some .aux ∧ os.get (i + 2) = some .aux ∧ os.get (i + 3) = some .aux ∧
      ∃ a a1 a2 a3, as[i]? = some a ∧ as[i + 1]? = some a1 ∧ as[i + 2]? = some a2 ∧ as[i + 3]? = some a3 ∧ W4 C h a a1 a2 a3 d := by
  obtain ⟨rfl, rfl, rfl, a, a1, a2, a3, e0, e1, e2, e3, x1, x2, x3, W⟩ := R.wht i d i1 i2 i3 e
  exact ⟨rfl, rfl, rfl, x1, x2, x3, a, a1, a2, a3, e0, e1, e2, e3, whtAt_iff.mp W⟩
theorem RelS.whtApart {hk h : Heap} {as : List Addr} {os : Store} (R : RelS C hk as os h) {i d i1 i2 i3 k e k1 k2 k3 : Nat} (hi : os.get i = some (.wht d i1 i2 i3)) (hk' : os.get k = some (.wht e k1 k2 k3)) (hne : i ≠ k) : i + 4 ≤ k ∨ k + 4 ≤ i := by
  obtain ⟨_, _, _, a1, a2, a3, _⟩ := R.whtOf hi
  obtain ⟨_, _, _, b1, b2, b3, _⟩ := R.whtOf hk'
  have c1 : k ≠ i + 1 := fun q => by rw [q, a1] at hk'; cases hk'
  have c2 : k ≠ i + 2 := fun q => by rw [q, a2] at hk'; cases hk'
  have c3 : k ≠ i + 3 := fun q => by rw [q, a3] at hk'; cases hk'
  have d1 : i ≠ k + 1 := fun q => by rw [q, b1] at hi; cases hi
  have d2 : i ≠ k + 2 := fun q => by rw [q, b2] at hi; cases hi
  have d3 : i ≠ k + 3 := fun q => by rw [q, b3] at hi; cases hi
  exact apart4 hne c1 c2 c3 d1 d2 d3
theorem RelS.resub {hk h h' : Heap} {as : List Addr} {os : Store} (R : RelS C hk as os h) (as0 : List Addr) (hsub : ∀ x ∈ as0, ∃ k o, as[k]? = some x ∧ os.get k = some o ∧ o.plain = false)
    (hkeep : ∀ b o, b ∉ as0 → h.get? b = some o → h'.get? b = some o) (hlive : ∀ a ∈ as0, ∃ o, h'.get? a = some o)
    (hw : ∀ (k d : Nat) (a a1 a2 a3 : Addr), os.get k = some (.wht d (k + 1) (k + 2) (k + 3)) → as[k]? = some a → as[k + 1]? = some a1 → as[k + 2]? = some a2 → as[k + 3]? = some a3 → W4 C h a a1 a2 a3 d → W4 C h' a a1 a2 a3 d) : RelS C hk as os h' := by
  have hin : ∀ x ∈ as0, x ∈ as := fun x hx => let ⟨k, o, e, _⟩ := hsub x hx; List.mem_of_getElem? e
  refine ⟨R.base, fun b o e => hkeep b o (fun q => by rw [R.off b (hin b q)] at e; cases e) (R.keep b o e), R.off, R.nodup, R.size, fun a ha => ?_, fun i o e => ?_, fun i d i1 i2 i3 e => ?_⟩
  · by_cases q : a ∈ as0
    · exact hlive a q
    · obtain ⟨o, e⟩ := R.live a ha
      exact ⟨o, hkeep a o q e⟩
  · obtain ⟨a, ea, r⟩ := R.obj i o e
    by_cases q : a ∈ as0
    · obtain ⟨k, o2, ek, eo, hp⟩ := hsub a q
      have : k = i := (List.getElem?_inj (List.getElem?_eq_some_iff.mp ek).1 R.nodup).mp (ek.trans ea.symm)
      subst this
      rw [e] at eo
      cases eo
      refine ⟨a, ea, ?_⟩
      cases o <;> first | exact trivial | cases hp
    · exact ⟨a, ea, r.at fun ob z => hkeep a ob q z⟩
  · obtain ⟨rfl, rfl, rfl, x1, x2, x3, a, a1, a2, a3, e0, e1, e2, e3, W⟩ := R.whtOf e
    exact ⟨rfl, rfl, rfl, a, a1, a2, a3, e0, e1, e2, e3, x1, x2, x3, whtAt_iff.mpr (hw i d a a1 a2 a3 e e0 e1 e2 e3 W)⟩
/-- a function run on a store of its own, that bears a part of the outer one -/
theorem runSub {fn : Fn} {fa : Addr} {m : Nat} (hf : RefF C m fa fn) {A : Around} {E : Value → Shared → Prop} {s : Shared} {hk : Heap} {as as0 : List Addr} {os os0 os1 : Store} {l : List AO} {args : List AV} {vals : List Value} {v : AV} {Q : Value → Shared → Prop}
    (Ro : Room A m) (R : RelS C hk as os s.heap) (hin : ∀ x ∈ as0, x ∈ as) (hnd : as0.Nodup) (hlen : as0.length = l.length) (hobj : ∀ (i : Nat) (o : AO), l[i]? = some o → ∃ x, as0[i]? = some x ∧ Real C as0 s.heap x o)
    (hw : ∀ (i d i1 i2 i3 : Nat), l[i]? ≠ some (AO.wht d i1 i2 i3)) (e0 : addAll st0 l = some os0) (e : fn args os0 = some (v, os1)) (hall : hasAll os1 0 l = true) (hv : RVs C as0 args vals)
    (K : ∀ as1 h' tk val, as0 <+: as1 → RV C as1 v val → (∀ b o, b ∉ as0 → s.heap.get? b = some o → h'.get? b = some o) → (∀ a ∈ as0, ∃ o, h'.get? a = some o) →
      (∀ (i : Nat) (o : AO), l[i]? = some o → ∃ x, as1[i]? = some x ∧ Real C as1 h' x o) → Q val { s with heap := h', toks := tk }) : wpAny (model prog C.w) A (call (.ref fa) vals) Q E s := by
  have hb : ∀ b o, C.hb.get? b = some o → (hideAll s.heap as0).get? b = some o := fun b o q => hideAll_get _ (R.inBase q) fun z => by
    have := R.off b (hin b z); rw [R.base b o q] at this; cases this
  have S0 : RelS C (hideAll s.heap as0) as0 os0 s.heap := RelS.ofAll e0 hb (fun _ _ q => of_hideAll _ q) hlen (fun a ha => hideAll_none _ ha) hnd (fun a ha => R.live a (hin a ha)) hobj hw
  refine hf Ro e S0 hv fun as1 h' tk val p Y hval => K as1 h' tk val p hval (fun b o hb' q => Y.keep b o (hideAll_get _ q hb')) (fun a ha => Y.live a ?_) fun i o q => ?_
  · obtain ⟨t, rfl⟩ := p; exact List.mem_append_left _ ha
  · have := hasAll_get hall q
    rw [Nat.zero_add] at this
    exact Y.obj i o this
theorem wht_nd {hk h : Heap} {as : List Addr} {os : Store} (R : RelS C hk as os h) {ks : List Nat} {xs : List Addr} (hnd : ks.Nodup) (h2 : ks.map (as[·]?) = xs.map some) : xs.Nodup := by
  have e1 : ∀ k ∈ ks, ∃ x, as[k]? = some x := fun k hk => by
    have : as[k]? ∈ ks.map (as[·]?) := List.mem_map.mpr ⟨k, hk, rfl⟩
    rw [h2] at this
    obtain ⟨x, _, hx⟩ := List.mem_map.mp this
    exact ⟨x, hx.symm⟩
  have h3 : (xs.map some).Nodup := by
    rw [← h2]
    rw [List.Nodup, List.pairwise_map]
    refine (List.Pairwise.and_mem.mp hnd).imp ?_
    rintro a b ⟨ha, hb, hne⟩ q
    obtain ⟨x, hx⟩ := e1 a ha
    exact hne ((List.getElem?_inj (List.getElem?_eq_some_iff.mp hx).1 R.nodup).mp q)
  rw [List.Nodup, List.pairwise_map] at h3
  exact h3.imp fun h q => h (congrArg some q)
theorem noWht (cs : List Nat) (d k : Nat) : ∀ (i e i1 i2 i3 : Nat), (whtObj cs d k)[i]? ≠ some (AO.wht e i1 i2 i3) := by
  intro i e i1 i2 i3 h
  match i, h with
  | 0, h => cases h
  | 1, h => cases h
  | 2, h => cases h
  | 3, h => cases h
  | _ + 4, h => cases h
/-- a method of two Whitespaces, the first other than the second -/
noncomputable def good2 (fn : Fn) (cs : List Nat) (d e : Nat) (r : Bool) : Bool := match addAll st0 (whtObj cs d 0 ++ whtObj cs e 4) with
  | some os => match fn [.ref 0, .ref 4] os with
    | some (.bool b, os1) => (b == r) && hasAll os1 0 (whtObj cs d 0 ++ whtObj cs e 4)
    | _ => false
  | none => false
noncomputable def good1 (fn : Fn) (cs : List Nat) (d : Nat) (r : Bool) : Bool := match addAll st0 (whtObj cs d 0) with
  | some os => match fn [.ref 0, .ref 0] os with
    | some (.bool b, os1) => (b == r) && hasAll os1 0 (whtObj cs d 0)
    | _ => false
  | none => false
/-- the four of a Whitespace in the store -/
structure At4 (as : List Addr) (os : Store) (i d : Nat) (a a1 a2 a3 : Addr) : Prop where
  e0 : as[i]? = some a
  e1 : as[i + 1]? = some a1
  e2 : as[i + 2]? = some a2
  e3 : as[i + 3]? = some a3
  g : os.get i = some (.wht d (i + 1) (i + 2) (i + 3))
  x1 : os.get (i + 1) = some .aux
  x2 : os.get (i + 2) = some .aux
  x3 : os.get (i + 3) = some .aux
theorem RelS.whtAt4 {hk h : Heap} {as : List Addr} {os : Store} (R : RelS C hk as os h) {i d i1 i2 i3 : Nat} (e : os.get i = some (.wht d i1 i2 i3)) : ∃ a a1 a2 a3, At4 as os i d a a1 a2 a3 ∧ W4 C h a a1 a2 a3 d := by
  obtain ⟨rfl, rfl, rfl, x1, x2, x3, a, a1, a2, a3, e0, e1, e2, e3, W⟩ := R.whtOf e
  exact ⟨a, a1, a2, a3, ⟨e0, e1, e2, e3, e, x1, x2, x3⟩, W⟩
theorem At4.mem {as : List Addr} {os : Store} {i d : Nat} {a a1 a2 a3 : Addr} (H : At4 as os i d a a1 a2 a3) {x : Addr} (hx : x ∈ [a, a1, a2, a3]) : ∃ k o, as[k]? = some x ∧ os.get k = some o ∧ o.plain = false := by
  simp only [List.mem_cons, List.not_mem_nil, or_false] at hx
  rcases hx with rfl | rfl | rfl | rfl
  · exact ⟨_, _, H.e0, H.g, rfl⟩
  · exact ⟨_, _, H.e1, H.x1, rfl⟩
  · exact ⟨_, _, H.e2, H.x2, rfl⟩
  · exact ⟨_, _, H.e3, H.x3, rfl⟩
theorem map4 {as : List Addr} {i : Nat} {a a1 a2 a3 : Addr} (e0 : as[i]? = some a) (e1 : as[i + 1]? = some a1) (e2 : as[i + 2]? = some a2) (e3 : as[i + 3]? = some a3) : (List.range' i 4).map (as[·]?) = [a, a1, a2, a3].map some := by
  show [as[i]?, as[i + 1]?, as[i + 2]?, as[i + 3]?] = _
  rw [e0, e1, e2, e3]
  rfl
theorem At4.map {as : List Addr} {os : Store} {i d : Nat} {a a1 a2 a3 : Addr} (H : At4 as os i d a a1 a2 a3) : (List.range' i 4).map (as[·]?) = [a, a1, a2, a3].map some := map4 H.e0 H.e1 H.e2 H.e3
theorem nd2 {i j : Nat} (h : i + 4 ≤ j ∨ j + 4 ≤ i) : (List.range' i 4 ++ List.range' j 4).Nodup := by
  refine List.nodup_append.mpr ⟨List.nodup_range' 1, List.nodup_range' 1, fun a ha b hb e => ?_⟩
  rw [List.mem_range'_1] at ha hb
  subst e
  omega
theorem nd3 {l : List Nat} {i j k : Nat} (hl : l = List.range' i 4 ++ List.range' j 4) (h : i + 4 ≤ j ∨ j + 4 ≤ i) (h1 : i + 4 ≤ k ∨ k + 4 ≤ i) (h2 : j + 4 ≤ k ∨ k + 4 ≤ j) : (l ++ List.range' k 4).Nodup := by
  subst hl
  refine List.nodup_append.mpr ⟨nd2 h, List.nodup_range' 1, fun a ha b hb e => ?_⟩
  rcases List.mem_append.mp ha with ha | ha
  · exact (List.nodup_append.mp (nd2 h1)).2.2 a ha b hb e
  · exact (List.nodup_append.mp (nd2 h2)).2.2 a ha b hb e
theorem At4.keep {as : List Addr} {os : Store} {i d : Nat} {a a1 a2 a3 : Addr} (H : At4 as os i d a a1 a2 a3) {h' : Heap} (W : W4 C h' a a1 a2 a3 d) {k d' : Nat} {c c1 c2 c3 : Addr} (g : os.get k = some (.wht d' (k + 1) (k + 2) (k + 3)))
    (g0 : as[k]? = some c) (g1 : as[k + 1]? = some c1) (g2 : as[k + 2]? = some c2) (g3 : as[k + 3]? = some c3) (hki : k = i) : W4 C h' c c1 c2 c3 d' := by
  subst hki
  cases H.g.symm.trans g
  cases H.e0.symm.trans g0
  cases H.e1.symm.trans g1
  cases H.e2.symm.trans g2
  cases H.e3.symm.trans g3
  exact W
theorem getPre {l as : List Addr} (p : l <+: as) {k : Nat} {x : Addr} (q : l[k]? = some x) : as[k]? = some x := by
  obtain ⟨t, rfl⟩ := p
  rw [List.getElem?_append_left (List.getElem?_eq_some_iff.mp q).1]; exact q
/-- four of a longer list are a Whitespace -/
theorem W4.ofPart {h' : Heap} {l as1 : List Addr} {os : List AO} (p : l <+: as1) {k d : Nat} {a a1 a2 a3 : Addr} (e0 : l[k]? = some a) (e1 : l[k + 1]? = some a1) (e2 : l[k + 2]? = some a2) (e3 : l[k + 3]? = some a3)
    (hobj : ∀ (i : Nat) (o : AO), os[i]? = some o → ∃ x, as1[i]? = some x ∧ Real C as1 h' x o) (hpart : ∀ (i : Nat) (o : AO), (whtObj C.cs d k)[i]? = some o → os[k + i]? = some o) : W4 C h' a a1 a2 a3 d :=
  W4.of (as := as1) (k := k) (getPre p e0) (getPre p e1) (getPre p e2) (getPre p e3) fun i o q => hobj _ _ (hpart i o q)
theorem good2_is {fn : Fn} {cs : List Nat} {d e : Nat} {r : Bool} (h : good2 fn cs d e r = true) : ∃ os0 os1, addAll st0 (whtObj cs d 0 ++ whtObj cs e 4) = some os0 ∧ fn [.ref 0, .ref 4] os0 = some (.bool r, os1) ∧ hasAll os1 0 (whtObj cs d 0 ++ whtObj cs e 4) = true := by
  unfold good2 at h
  split at h
  · rename_i os0 q0
    split at h
    · rename_i b os1 q1
      rw [Bool.and_eq_true] at h
      cases eq_of_beq h.1
      exact ⟨os0, os1, q0, q1, h.2⟩
    · cases h
  · cases h
theorem good1_is {fn : Fn} {cs : List Nat} {d : Nat} {r : Bool} (h : good1 fn cs d r = true) : ∃ os0 os1, addAll st0 (whtObj cs d 0) = some os0 ∧ fn [.ref 0, .ref 0] os0 = some (.bool r, os1) ∧ hasAll os1 0 (whtObj cs d 0) = true := by
  unfold good1 at h
  split at h
  · rename_i os0 q0
    split at h
    · rename_i b os1 q1
      rw [Bool.and_eq_true] at h
      cases eq_of_beq h.1
      exact ⟨os0, os1, q0, q1, h.2⟩
    · cases h
  · cases h
theorem refs2 {as : List Addr} {i j : Nat} {a b : Addr} {vals : List Value} (ha : as[i]? = some a) (hb : as[j]? = some b) (hv : RVs C as [.ref i, .ref j] vals) : vals = [.ref a, .ref b] := by
  obtain ⟨v0, r0, rfl, ⟨a', ha', rfl⟩, v1, r1, rfl, ⟨b', hb', rfl⟩, hr1⟩ := hv
  rw [show r1 = [] from hr1]
  cases ha.symm.trans ha'
  cases hb.symm.trans hb'
  rfl
theorem run2 {fn : Fn} {fa : Addr} {m : Nat} (hf : RefF C m fa fn) {A : Around} {E : Value → Shared → Prop} {s : Shared} {hk : Heap} {as : List Addr} {os : Store} {i d i1 i2 i3 j e j1 j2 j3 : Nat} {vals : List Value} {r : Bool} {Q : Value → Shared → Prop}
    (Ro : Room A m) (R : RelS C hk as os s.heap) (hi : os.get i = some (.wht d i1 i2 i3)) (hj : os.get j = some (.wht e j1 j2 j3)) (hij : i ≠ j) (hg : good2 fn C.cs d e r = true) (hv : RVs C as [.ref i, .ref j] vals)
    (K : ∀ h' tk, RelS C hk as os h' → Q (.bool r) { s with heap := h', toks := tk }) : wpAny (model prog C.w) A (call (.ref fa) vals) Q E s := by
  refine viaP fun G kG => ?_
  obtain ⟨a, a1, a2, a3, H, W⟩ := R.whtAt4 hi
  obtain ⟨b, b1, b2, b3, V, U⟩ := R.whtAt4 hj
  obtain ⟨os0, os1, q0, q1, hall⟩ := good2_is hg
  cases refs2 H.e0 V.e0 hv
  have hap := R.whtApart hi hj hij
  have hmem : ∀ x ∈ [a, a1, a2, a3, b, b1, b2, b3], ∃ k o, as[k]? = some x ∧ os.get k = some o ∧ o.plain = false := fun x hx => (List.mem_append (s := [a, a1, a2, a3]) (t := [b, b1, b2, b3])).mp hx |>.elim H.mem V.mem
  have hmap : (List.range' i 4 ++ List.range' j 4).map (as[·]?) = [a, a1, a2, a3, b, b1, b2, b3].map some := by rw [List.map_append, H.map, V.map]; rfl
  refine kG (runSub hf Ro R (as0 := [a, a1, a2, a3, b, b1, b2, b3]) (fun x hx => let ⟨k, o, q, _⟩ := hmem x hx; List.mem_of_getElem? q) (wht_nd R (nd2 hap) hmap) rfl ?_ ?_ q0 q1 hall ⟨_, _, rfl, ⟨a, rfl, rfl⟩, _, _, rfl, ⟨b, rfl, rfl⟩, rfl⟩ ?_)
  · intro k o q
    by_cases hk4 : k < 4
    · rw [List.getElem?_append_left (by exact hk4)] at q
      have := W.real (as := [a, a1, a2, a3, b, b1, b2, b3]) (k := 0) rfl rfl rfl rfl k o q
      rwa [Nat.zero_add] at this
    · rw [List.getElem?_append_right (by exact Nat.le_of_not_lt hk4)] at q
      have := U.real (as := [a, a1, a2, a3, b, b1, b2, b3]) (k := 4) rfl rfl rfl rfl (k - 4) o q
      rwa [Nat.add_sub_cancel' (Nat.le_of_not_lt hk4)] at this
  · intro k d' k1 k2 k3 q
    by_cases hk4 : k < 4
    · rw [List.getElem?_append_left (by exact hk4)] at q; exact noWht _ _ _ _ _ _ _ _ q
    · rw [List.getElem?_append_right (by exact Nat.le_of_not_lt hk4)] at q; exact noWht _ _ _ _ _ _ _ _ q
  · intro as1 h' tk val p hval hkeep hlive hobj
    cases (show val = _ from hval)
    have W' : W4 C h' a a1 a2 a3 d := W4.ofPart p (k := 0) rfl rfl rfl rfl hobj fun k o q => by
      rw [Nat.zero_add, List.getElem?_append_left (List.getElem?_eq_some_iff.mp q).1]; exact q
    have V' : W4 C h' b b1 b2 b3 e := W4.ofPart p (k := 4) rfl rfl rfl rfl hobj fun k o q => by
      rw [List.getElem?_append_right (Nat.le_add_right 4 k), show 4 + k - (whtObj C.cs d 0).length = k from Nat.add_sub_cancel_left ..]; exact q
    refine K h' tk (R.resub _ hmem hkeep hlive fun k d' c c1 c2 c3 g g0 g1 g2 g3 Z => ?_)
    by_cases hki : k = i
    · exact H.keep W' g g0 g1 g2 g3 hki
    · by_cases hkj : k = j
      · exact V.keep V' g g0 g1 g2 g3 hkj
      · have hall : ([a, a1, a2, a3, b, b1, b2, b3] ++ [c, c1, c2, c3]).Nodup := wht_nd R (nd3 rfl hap (R.whtApart hi g (Ne.symm hki)) (R.whtApart hj g (Ne.symm hkj))) (by rw [List.map_append, hmap, map4 g0 g1 g2 g3, ← List.map_append])
        exact Z.at fun x hx o q => hkeep x o (fun z => (List.nodup_append.mp hall).2.2 x z x hx rfl) q
theorem run1 {fn : Fn} {fa : Addr} {m : Nat} (hf : RefF C m fa fn) {A : Around} {E : Value → Shared → Prop} {s : Shared} {hk : Heap} {as : List Addr} {os : Store} {i d i1 i2 i3 : Nat} {vals : List Value} {r : Bool} {Q : Value → Shared → Prop}
    (Ro : Room A m) (R : RelS C hk as os s.heap) (hi : os.get i = some (.wht d i1 i2 i3)) (hg : good1 fn C.cs d r = true) (hv : RVs C as [.ref i, .ref i] vals)
    (K : ∀ h' tk, RelS C hk as os h' → Q (.bool r) { s with heap := h', toks := tk }) : wpAny (model prog C.w) A (call (.ref fa) vals) Q E s := by
  refine viaP fun G kG => ?_
  obtain ⟨a, a1, a2, a3, H, W⟩ := R.whtAt4 hi
  obtain ⟨os0, os1, q0, q1, hall⟩ := good1_is hg
  cases refs2 H.e0 H.e0 hv
  refine kG (runSub hf Ro R (as0 := [a, a1, a2, a3]) (fun x hx => let ⟨k, o, q, _⟩ := H.mem hx; List.mem_of_getElem? q) (wht_nd R (List.nodup_range' 1) H.map) rfl ?_ (noWht _ _ _) q0 q1 hall ⟨_, _, rfl, ⟨a, rfl, rfl⟩, _, _, rfl, ⟨a, rfl, rfl⟩, rfl⟩ ?_)
  · intro k o q
    have := W.real (as := [a, a1, a2, a3]) (k := 0) rfl rfl rfl rfl k o q
    rwa [Nat.zero_add] at this
  · intro as1 h' tk val p hval hkeep hlive hobj
    cases (show val = _ from hval)
    have W' : W4 C h' a a1 a2 a3 d := W4.ofPart p (k := 0) rfl rfl rfl rfl hobj fun k o q => by rw [Nat.zero_add]; exact q
    refine K h' tk (R.resub _ (fun x hx => H.mem hx) hkeep hlive fun k d' c c1 c2 c3 g g0 g1 g2 g3 Z => ?_)
    by_cases hki : k = i
    · exact H.keep W' g g0 g1 g2 g3 hki
    · have hall : ([a, a1, a2, a3] ++ [c, c1, c2, c3]).Nodup := wht_nd R (nd2 (R.whtApart hi g (Ne.symm hki))) (by rw [List.map_append, H.map, map4 g0 g1 g2 g3, ← List.map_append])
      exact Z.at fun x hx o q => hkeep x o (fun z => (List.nodup_append.mp hall).2.2 x z x hx rfl) q
end
end Mine
end
end
section
set_option maxRecDepth 100000
set_option maxHeartbeats 0
set_option linter.unusedVariables false
set_option linter.unusedSectionVars false
set_option autoImplicit false
set_option genSizeOf false
set_option genInjectivity false
noncomputable section
namespace Mine
open PySem PySem.W PyProof.Rows
/-! what a Whitespace is made of -/
noncomputable def initRun (t : List Nat) : Option (AV × Store) := o1 (addAll st0 [.inst 1, .idict []]) fun os => f_init [.ref 0, .str t] os
noncomputable def whtNats (cs : List Nat) (d : Nat) : List AV := (wCount cs d).map fun n => .int (.ofNat n)
noncomputable def initOk (r : Option (AV × Store)) (n nt tr : Int) (sm : Bool) (xs : List AV) : Option Unit :=
  ob r fun v os => onNone v <| onInst (os.get 0) fun j => bT (Nat.beq j 1) <| onIdict (os.get 1) fun es => oW (lk 3 es) fun w => onRef w fun i2 => onTup (os.get i2) fun l => onPair l fun x y => onRef x fun i3 => onInt y fun t =>
    bT (eqI t tr) <| oW (lk 1 es) fun v1 => bT (avB v1 (.int n)) <| oW (lk 2 es) fun v2 => bT (avB v2 (.int nt)) <| oW (lk 4 es) fun v4 => bT (avB v4 (.bool sm)) <| bT (!(Nat.beq i2 i3)) <| onTup (os.get i3) fun ys => bT (avsB ys xs) (some ())
structure InitIs (os : Store) (n nt tr : Int) (sm : Bool) (xs : List AV) (es : List (Nat × AV)) (i2 i3 : Nat) : Prop where
  g0 : os.get 0 = some (.inst 1)
  g1 : os.get 1 = some (.idict es)
  k3 : lk 3 es = some (.ref i2)
  gi2 : os.get i2 = some (.tup [.ref i3, .int tr])
  k1 : lk 1 es = some (.int n)
  k2 : lk 2 es = some (.int nt)
  k4 : lk 4 es = some (.bool sm)
  ne : i2 ≠ i3
  gi3 : os.get i3 = some (.tup xs)
theorem initOk_is {r : Option (AV × Store)} {n nt tr : Int} {sm : Bool} {xs : List AV} {u : Unit} {P : Prop} (e : initOk r n nt tr sm xs = some u) (h : ∀ os es i2 i3, r = some (.none, os) → InitIs os n nt tr sm xs es i2 i3 → P) : P := by
  refine ob_elim e fun v os hr e => onNone_elim e fun hv e => onInst_elim e fun j hj e => bT_elim e fun hj1 e => onIdict_elim e fun es hes e => oW_elim e fun w hw e => onRef_elim e fun i2 hi2 e => onTup_elim e fun l hl e => onPair_elim e fun x y hxy e =>
    onRef_elim e fun i3 hi3 e => onInt_elim e fun t ht e => bT_elim e fun ht2 e => oW_elim e fun v1 h1 e => bT_elim e fun a1 e => oW_elim e fun v2 h2 e => bT_elim e fun a2 e => oW_elim e fun v4 h4 e => bT_elim e fun a4 e => bT_elim e fun hne e => onTup_elim e fun ys hys e => bT_elim e fun ha _ => ?_
  subst hv hi2 hxy hi3 ht
  cases avB_eq a1
  cases avB_eq a2
  cases avB_eq a4
  cases avsB_eq ha
  cases Nat.eq_of_beq_eq_true hj1
  rw [eqI_eq] at ht2
  cases eq_of_beq ht2
  exact h os es i2 i3 hr ⟨hj, hes, hw, hl, h1, h2, h4, fun z => (by rw [z, Nat.beq_refl] at hne; cases hne), hys⟩
noncomputable def initGood (cs : List Nat) (d : Nat) (rev : Bool) (c : Nat) : Bool := (initOk (initRun (syS cs (.wtext d rev c))) (wN cs d) (wNt cs d) (wTr cs d) (Nat.ble (wCount cs d).length 1) (whtNats cs d)).isSome
theorem initGood_is {cs : List Nat} {d : Nat} {rev : Bool} {c : Nat} (h : initGood cs d rev c = true) : ∃ os es i2 i3, initRun (syS cs (.wtext d rev c)) = some (.none, os) ∧ InitIs os (wN cs d) (wNt cs d) (wTr cs d) (Nat.ble (wCount cs d).length 1) (whtNats cs d) es i2 i3 := by
  obtain ⟨u, e⟩ := Option.isSome_iff_exists.mp h
  exact initOk_is e fun os es i2 i3 a b => ⟨os, es, i2, i3, a, b⟩
section
variable {C : Cx} {n : Nat} {sc : Sc}
theorem makes_163 (p : Params) : makesIn (hd.heap_1 p) 163 = true := by kernel_rfl
theorem init_163 (p : Params) : findIn (hd.heap_1 p) (.ref 163) "__init__" = some (some (.ref 118)) := by kernel_rfl
theorem fn_118 (p : Params) : typeIn (hd.heap_1 p) (.ref 118) = some (.type "function") := by kernel_rfl
/-- mkM for a code -/
theorem codeM (O : Ok C) {d : DefRec} {q : Str} {fa : Addr} (D : MAt C d q fa) {ks : List Nat} {f} (hf : RefSs C n ⟨d.scope, true⟩ d.body f)
    (hb : ∀ (s : Shared) (pm code doc : Value) (vals : List Value), vals.length = ks.length → BindsTo s (methDef d.name q d.params d.body d.scope pm code doc) ⟨vals, []⟩ ((ks.map nm).zip vals))
    (hks : ∀ k ∈ ks, k < 65) (hnd : ks.Nodup) (hkl : ∀ k ∈ ks, d.scope.names.lookup (nm k) = some .local) (hcell : ∀ x ∈ d.scope.names, x.2 ≠ .cell) (hco : d.scope.isCoroutine = false) (hgen : d.scope.isGenerator = false) (hk : d.scope.kind = .function)
    {A : Around} {s : Shared} {RR : Result → Shared → Prop} {hk' : Heap} {as : List Addr} {os os' : Store} {args : List AV} {vals : List Value} {v : AV}
    (R : Room A (n + 1)) (e : fnOf ks f args os = some (v, os')) (X : RelS C hk' as os s.heap) (hx : RVs C as args vals)
    (K : ∀ as' h' tk val, as <+: as' → RelS C hk' as' os' h' → RV C as' v val → RR (.ok (.ret val)) { s with heap := h', toks := tk }) :
    codeAny (model prog C.w) A (.call (.ref fa) ⟨vals, []⟩) RR s := by
  obtain ⟨ob, pm, code, doc, ho, hoc, hdt, hcr⟩ := D.fn
  have hlen : vals.length = ks.length := hx.length.trans (fnOf_len e)
  refine enter O rfl rfl rfl rfl rfl (fun b o e => X.inBase e) ho hdt hcr (hb s pm code doc vals hlen) hkl hcell hco hgen hk R fun env h₀ tk R' F _ _ _ fL hns hext => ?_
  refine fnOf_run (Q := fun val s' => RR (.ok (.ret val)) s') O hf e R' F (fL ▸ frame_rel X hx hks hnd hext hns) (fun as1 h1 t1 val p1 Y1 hv => K as1 h1 t1 val p1 (X.back Y1) hv) ?_ ?_
  · intro _ _ q
    exact q
  · intro _ q
    exact q
/-- four new objects, that are a Whitespace -/
theorem RelS.newWht {hk h h' : Heap} {as : List Addr} {os os' : Store} {x x1 x2 x3 : Addr} {d : Nat} (R : RelS C hk as os h) (hs : ∀ b o, h.get? b = some o → h'.get? b = some o) (hnew : ∀ y ∈ [x, x1, x2, x3], h.get? y = none) (hnd : [x, x1, x2, x3].Nodup)
    (hlive : ∀ y ∈ [x, x1, x2, x3], ∃ o, h'.get? y = some o) (W : W4 C h' x x1 x2 x3 d) (e : addAll os [.wht d (os.n + 1) (os.n + 2) (os.n + 3), .aux, .aux, .aux] = some os') : RelS C hk (as ++ [x, x1, x2, x3]) os' h' ∧ (as ++ [x, x1, x2, x3])[os.n]? = some x := by
  have hout : ∀ i, os.n ≤ i → os.get i = none := fun i hi => by
    cases q : os.get i with
    | none => rfl
    | some o =>
      obtain ⟨a, ea, _⟩ := R.obj i o q
      have := (List.getElem?_eq_some_iff.mp ea).1
      rw [R.size] at this
      omega
  obtain ⟨hn, hold, hget⟩ := addAll_eq _ _ _ hout e
  have pre : as <+: as ++ [x, x1, x2, x3] := ⟨_, rfl⟩
  have at' : ∀ (i : Nat), (as ++ [x, x1, x2, x3])[os.n + i]? = ([x, x1, x2, x3] : List Addr)[i]? := fun i => by
    rw [List.getElem?_append_right (by rw [R.size]; omega), R.size]
    congr 1; omega
  have ato : ∀ {i : Nat} {a : Addr}, as[i]? = some a → (as ++ [x, x1, x2, x3])[i]? = some a := fun {i a} q => by
    rw [List.getElem?_append_left (List.getElem?_eq_some_iff.mp q).1]; exact q
  have hlt : ∀ {i : Nat} {a : Addr}, as[i]? = some a → i < os.n := fun {i a} q => by
    have := (List.getElem?_eq_some_iff.mp q).1
    rwa [R.size] at this
  have e0 := at' 0
  rw [Nat.add_zero] at e0
  refine ⟨⟨R.base, fun b o q => hs b o (R.keep b o q), ?_, ?_, ?_, ?_, ?_, ?_⟩, e0⟩
  · intro a ha
    rcases List.mem_append.mp ha with ha | ha
    · exact R.off a ha
    · exact R.notK (hnew a ha)
  · rw [List.nodup_append]
    refine ⟨R.nodup, hnd, fun a ha b hb q => ?_⟩
    subst q
    exact R.notIn (hnew a hb) ha
  · rw [hn, ← R.size]; simp
  · intro a ha
    rcases List.mem_append.mp ha with ha | ha
    · obtain ⟨o, q⟩ := R.live a ha; exact ⟨o, hs a o q⟩
    · exact hlive a ha
  · intro i o q
    by_cases hi : i < os.n
    · rw [hold i hi] at q
      obtain ⟨a, ea, r⟩ := R.obj i o q
      exact ⟨a, ato ea, (r.at fun ob z => hs a ob z).mono pre⟩
    · obtain ⟨j, rfl⟩ : ∃ j, i = os.n + j := ⟨i - os.n, by omega⟩
      rw [hget] at q
      rw [at']
      match j, q with
      | 0, q => cases q; exact ⟨x, rfl, trivial⟩
      | 1, q => cases q; exact ⟨x1, rfl, trivial⟩
      | 2, q => cases q; exact ⟨x2, rfl, trivial⟩
      | 3, q => cases q; exact ⟨x3, rfl, trivial⟩
      | _ + 4, q => cases q
  · intro i d' i1 i2 i3 q
    by_cases hi : i < os.n
    · rw [hold i hi] at q
      refine (R.wht i d' i1 i2 i3 q).at pre (fun j y z => ?_) fun y j _ _ o => hs y o
      obtain ⟨a, ea⟩ : ∃ a, as[j]? = some a := by
        cases w : as[j]? with
        | none => exact absurd w z
        | some a => exact ⟨a, rfl⟩
      rw [hold j (hlt ea)]; exact y
    · obtain ⟨j, rfl⟩ : ∃ j, i = os.n + j := ⟨i - os.n, by omega⟩
      rw [hget] at q
      match j, q with
      | 0, q =>
        cases q
        exact ⟨rfl, rfl, rfl, x, x1, x2, x3, e0, at' 1, at' 2, at' 3, hget 1, hget 2, hget 3, whtAt_iff.mpr W⟩
      | 1, q => cases q
      | 2, q => cases q
      | 3, q => cases q
      | _ + 4, q => cases q
noncomputable def wdom (d : Nat) (rev : Bool) (c : Nat) : Bool := match Nat.beq d 1 with
  | true => Nat.beq c 48 && !rev
  | false => Nat.ble 2 d && Nat.ble 49 c && Nat.ble (c + d) 56 && (rev == Nat.beq (c % 2) 1)
theorem kRetF {hk : Heap} {Q : Value → Shared → Prop} {s : Shared} {as : List Addr} {a v : AV} {b os' : Store} (e : some (a, b) = some (v, os'))
    (K : ∀ as' h' tk val, as <+: as' → RelS C hk as' os' h' → RV C as' v val → Q val { s with heap := h', toks := tk }) :
    ∀ as' h' tk val, as <+: as' → RelS C hk as' b h' → RV C as' a val → Q val { s with heap := h', toks := tk } := by cases e; exact K
noncomputable def onWt {β : Type} (y : Sy) (k : Nat → Bool → Nat → Option β) : Option β := match y with
  | .wtext d rev c => k d rev c
  | _ => none
theorem onWt_elim {β : Type} {y : Sy} {k : Nat → Bool → Nat → Option β} {r : β} {P : Prop} (e : onWt y k = some r) (h : ∀ d b c, y = .wtext d b c → k d b c = some r → P) : P := by
  cases y <;> first | exact noS e | exact h _ _ _ rfl e
noncomputable def oWht (a : List AV) (os : Store) : Option (AV × Store) := on1 a fun x => onSym x fun y => onWt y fun d rev c => bT (wdom d rev c) <| o1 (addAll os [.wht d (os.n + 1) (os.n + 2) (os.n + 3), .aux, .aux, .aux]) fun o => some (.ref os.n, o)
structure WOk (cs : List Nat) : Prop where
  init : ∀ d rev c, wdom d rev c = true → initGood cs d rev c = true
  less : ∀ d e, 1 ≤ d → d ≤ 6 → 1 ≤ e → e ≤ d + 1 → good2 f_less cs d e (Nat.blt d e) = true
  eq2 : ∀ d, 1 ≤ d → d ≤ 6 → good2 f_equal cs d d true = true
  eq1 : ∀ d, 1 ≤ d → d ≤ 7 → good1 f_equal cs d true = true
theorem wht_start {h : Heap} {os0 : Store} (q0 : addAll st0 [.inst 1, .idict []] = some os0) (hb : ∀ b o, C.hb.get? b = some o → h.get? b = some o) : RelS C h [h.objs.size + 1, h.objs.size] os0 ((h.push emptyDict).push (instObj 163 h.objs.size)) := by
  have k0 : ∀ b o, h.get? b = some o → ((h.push emptyDict).push (instObj 163 h.objs.size)).get? b = some o := fun b o e => Heap.get?_push_of_some _ (Heap.get?_push_of_some _ e)
  have hx0 : ((h.push emptyDict).push (instObj 163 h.objs.size)).get? (h.objs.size + 1) = some (instObj 163 h.objs.size) := by heap_get
  have hd0 : ((h.push emptyDict).push (instObj 163 h.objs.size)).get? h.objs.size = some emptyDict := by heap_get
  have nx : h.get? (h.objs.size + 1) = none := Heap.get?_none_of_le (Nat.le_succ _)
  have nd : h.get? h.objs.size = none := fresh_size _
  refine RelS.ofAll q0 hb k0 rfl ?_ (by simp) ?_ ?_ ?_
  · intro a ha
    simp only [List.mem_cons, List.not_mem_nil, or_false] at ha
    rcases ha with rfl | rfl
    · exact nx
    · exact nd
  · intro a ha
    simp only [List.mem_cons, List.not_mem_nil, or_false] at ha
    rcases ha with rfl | rfl
    · exact ⟨_, hx0⟩
    · exact ⟨_, hd0⟩
  · intro i o hio
    match i, hio with
    | 0, hio => cases hio; exact ⟨_, rfl, _, rfl, hx0⟩
    | 1, hio =>
      cases hio
      refine ⟨_, rfl, fun _ => none, ⟨_, _, _, hd0, rfl, fun e he => by simp at he, List.Pairwise.nil, fun _ => rfl⟩, fun y hy => absurd rfl hy, fun k v e => by cases e⟩
    | _ + 2, hio => cases hio
  · intro i d' j1 j2 j3 hio
    match i, hio with
    | 0, hio => cases hio
    | 1, hio => cases hio
    | _ + 2, hio => cases hio
theorem r_wht (O : Ok C) (P : Pg C) (P2 : Pg2 C) (B : Bn C) (W : WOk C.cs) : RefF C (n + 2) 163 oWht := by
  intro A E s hk as os os' args vals v Q R e X hx K
  refine on1_elim e fun x1 g1 e => onSym_elim e fun y1 g2 e => onWt_elim e fun d rev c g3 e => bT_elim e fun hdom e => o1_elim e fun o4 q4 z9 => ?_
  subst g1 g2 g3
  refine rvs1 hx fun w0 hw0 => rvSym hw0 fun t0 => ?_
  obtain ⟨os1, es, i2, i3, hrun, H⟩ := initGood_is (W.init d rev c hdom)
  obtain ⟨h, g, dr, t, oo⟩ := s
  refine (wpAny_call (make_core (makes_of (P.frag.keeps fun b o e => X.inBase e) (makes_163 _)) (looks_findIn (P.frag.keeps fun b o e => X.inBase e) (init_163 _)) (fun self => bind_fn (P.frag.keeps fun b o e => X.inBase e) self (fn_118 _)) (.inl rfl) ?_))
  have k0 : ∀ b o, h.get? b = some o → ((h.push emptyDict).push (instObj 163 h.objs.size)).get? b = some o := fun b o e => Heap.get?_push_of_some _ (Heap.get?_push_of_some _ e)
  have hx0 : ((h.push emptyDict).push (instObj 163 h.objs.size)).get? (h.objs.size + 1) = some (instObj 163 h.objs.size) := by heap_get
  have hd0 : ((h.push emptyDict).push (instObj 163 h.objs.size)).get? h.objs.size = some emptyDict := by heap_get
  have nx : h.get? (h.objs.size + 1) = none := Heap.get?_none_of_le (Nat.le_succ _)
  have nd : h.get? h.objs.size = none := fresh_size _
  refine o1_elim hrun fun os0 q0 hrun => ?_
  have S0 := wht_start q0 (fun b o e => X.inBase e)
  have R1 : Room (A.under (.builtin "type.__call__" ⟨.ref 163 :: [Value.str ⟨(syS C.cs (.wtext d rev c)).toArray⟩ t0], []⟩)) (n + 1) :=
    ⟨R.handled, by have := R.depth; show A.depth + 1 + (n + 1) < _; omega, by have := R.units; show A.units + 1 + 20 * (n + 1) + 200 < _; omega⟩
  refine codeM O (mat_init P) (s_init O P P2 B) (by intro s pm code doc vals h; obtain ⟨a0, a1, rfl⟩ := len2 h; exact BindsTo.of_eq (by kernel_rfl)) (by decide) (by decide) (by decide +kernel) (by decide +kernel) (by decide +kernel) (by decide +kernel) (by decide +kernel)
    R1 hrun S0 ⟨_, _, rfl, ⟨_, rfl, rfl⟩, _, _, rfl, ⟨t0, rfl⟩, rfl⟩ fun as1 h2 tk val p Y hv => ?_
  rw [show val = .none from hv]
  refine ⟨rfl, ?_⟩
  obtain ⟨tl, hp⟩ := p
  have a0 : as1[0]? = some (h.objs.size + 1) := by rw [← hp]; rfl
  have a1 : as1[1]? = some h.objs.size := by rw [← hp]; rfl
  obtain ⟨x0, ex0, da, eda, ho0⟩ := Y.obj 0 _ H.g0
  rw [a0] at ex0; cases ex0
  rw [a1] at eda; cases eda
  obtain ⟨x1, ex1, mA, hns, hw, hA⟩ := Y.obj 1 _ H.g1
  rw [a1] at ex1; cases ex1
  obtain ⟨x2, ex2, it2, hi2, hr2⟩ := Y.obj i2 _ H.gi2
  obtain ⟨x3, ex3, it3, hi3, hr3⟩ := Y.obj i3 _ H.gi3
  obtain ⟨u, w, hit, ⟨x3', ex3', hu⟩, ⟨tw, hw'⟩⟩ := rvs2L hr2
  rw [ex3] at ex3'; cases ex3'
  subst hu hw'
  have hne := H.ne
  have n20 : i2 ≠ 0 := fun z => by have q := H.gi2; rw [z, H.g0] at q; cases q
  have n21 : i2 ≠ 1 := fun z => by have q := H.gi2; rw [z, H.g1] at q; cases q
  have n30 : i3 ≠ 0 := fun z => by have q := H.gi3; rw [z, H.g0] at q; cases q
  have n31 : i3 ≠ 1 := fun z => by have q := H.gi3; rw [z, H.g1] at q; cases q
  have hnd : [h.objs.size + 1, h.objs.size, x2, x3].Nodup := wht_nd Y (ks := [0, 1, i2, i3]) (by simp; omega) (by simp [a0, a1, ex2, ex3])
  have hmem : ∀ y ∈ [h.objs.size + 1, h.objs.size, x2, x3], y ∈ as1 := by
    intro y hy
    simp only [List.mem_cons, List.not_mem_nil, or_false] at hy
    rcases hy with rfl | rfl | rfl | rfl
    · exact List.mem_of_getElem? a0
    · exact List.mem_of_getElem? a1
    · exact List.mem_of_getElem? ex2
    · exact List.mem_of_getElem? ex3
  have W4' := W4.put ho0 hns hw hA H.k1 H.k2 H.k3 H.k4 ex2 (hit ▸ hi2) hi3 hr3
  obtain ⟨Z, ez⟩ := X.newWht (h' := h2) (fun b o e => Y.keep b o e) (fun y hy => Y.off y (hmem y hy)) hnd (fun y hy => Y.live y (hmem y hy)) W4' q4
  exact kRetF z9 K _ h2 tk _ ⟨_, rfl⟩ Z ⟨_, ez, rfl⟩
/-! less, equal -/
noncomputable def oLessW (a : List AV) (os : Store) : Option (AV × Store) := onPair a fun a b => onRef a fun i => onRef b fun j => onWht (os.get i) fun d _ _ _ => onWht (os.get j) fun e _ _ _ =>
  bT (Nat.ble 1 d) <| bT (Nat.ble d 6) <| bT (Nat.ble 1 e) <| bT (Nat.ble e (d + 1)) <| bT (!(Nat.beq i j)) <| some (.bool (Nat.blt d e), os)
theorem not_beq {i j : Nat} (h : (!(Nat.beq i j)) = true) : i ≠ j := fun q => by subst q; simp at h
theorem r_lessW (O : Ok C) (P : Pg C) (P2 : Pg2 C) (B : Bn C) (W : WOk C.cs) : RefF C (n + 2) 153 oLessW := by
  intro A E s hk as os os' args vals v Q R e X hx K
  refine onPair_elim e fun x1 x2 g1 e => onRef_elim e fun i g2 e => onRef_elim e fun j g3 e => onWht_elim e fun d i1 i2 i3 hi e => onWht_elim e fun d2 j1 j2 j3 hj e => bT_elim e fun c1 e => bT_elim e fun c2 e => bT_elim e fun c3 e => bT_elim e fun c4 e => bT_elim e fun c5 z => ?_
  subst g1 g2 g3
  exact run2 (r_less O P P2 B) R X hi hj (not_beq c5) (W.less d d2 (ble_iff.mp c1) (ble_iff.mp c2) (ble_iff.mp c3) (ble_iff.mp c4)) hx fun h' tk Y => kRetF z K as h' tk _ (List.prefix_refl _) Y rfl
noncomputable def oEqualW (a : List AV) (os : Store) : Option (AV × Store) := onPair a fun a b => onRef a fun i => onRef b fun j => onWht (os.get i) fun d _ _ _ => onWht (os.get j) fun e _ _ _ =>
  bT (Nat.ble 1 d) <| bT (Nat.beq d e) <| bIf (Nat.beq i j) (bT (Nat.ble d 7) <| some (.bool true, os)) (bT (Nat.ble d 6) <| some (.bool true, os))
theorem r_equalW (O : Ok C) (P : Pg C) (P2 : Pg2 C) (B : Bn C) (W : WOk C.cs) : RefF C (n + 1) 139 oEqualW := by
  intro A E s hk as os os' args vals v Q R e X hx K
  refine onPair_elim e fun x1 x2 g1 e => onRef_elim e fun i g2 e => onRef_elim e fun j g3 e => onWht_elim e fun d i1 i2 i3 hi e => onWht_elim e fun d2 j1 j2 j3 hj e => bT_elim e fun c1 e => bT_elim e fun c2 e9 => ?_
  cases Nat.eq_of_beq_eq_true c2
  subst g1 g2 g3
  refine bIf_elim e9 (fun hij e => bT_elim e fun c7 z => ?_) fun hij e => bT_elim e fun c7 z => ?_
  · cases Nat.eq_of_beq_eq_true hij
    exact run1 (r_equal O P P2 B) R X hi (W.eq1 d (ble_iff.mp c1) (ble_iff.mp c7)) hx fun h' tk Y => kRetF z K as h' tk _ (List.prefix_refl _) Y rfl
  · exact run2 (r_equal O P P2 B) R X hi hj (not_beq (by rw [hij]; rfl)) (W.eq2 d (ble_iff.mp c1) (ble_iff.mp c7)) hx fun h' tk Y => kRetF z K as h' tk _ (List.prefix_refl _) Y rfl
/-! the calls -/
theorem RefE.callCls (O : Ok C) (P : Pg C) (P2 : Pg2 C) {fn : Fn} {e : Expr} {es : List Expr} {p pos : Pos} {fs} (hop : RefF C n 163 fn) (hfs : RefL C n sc (e :: es) (cSeq fs))
    (hx : sc.s.names.lookup (Str.ofString "Whitespace") = some .globalImplicit)
    (he : ∀ env, starEach (e :: es) env = (false, eval e env) :: starEach es env := by intro _; rfl) (hp : ∀ env, (backTo pos (starEach es env)).any (·.1) = false := by intro _; rfl) :
    RefE C n sc (.Call (.Name (Str.ofString "Whitespace") p) (e :: es) [] pos) (cCall fn (cSeq fs)) := by
  intro A env E s hk as st st' u Q R F e' X K
  refine ob_elim e' fun a s1 q1 e => ob_elim e fun wv o q2 z => ?_
  refine wpAny_Call_Name_kw (nameG O X F hx P2.ws (by decide) ?_)
  refine callWith_cls (wcls_at P) (hfs pos R F q1 X fun as1 h1 t1 xs p1 X1 hxs => ⟨fun b o e => X1.S.inBase e, ?_⟩) (he env) (hp env)
  exact hop R q2 X1.S.wide hxs fun as2 h2 t2 val p2 Y hv => kRetT z K as2 h2 t2 val (p1.trans p2) (X1.callee p2 Y) hv
noncomputable def cCallW (fn : Fn) (f : St → Option (AV × St)) (g : St → Option (List AV × St)) : St → Option (AV × St) := fun s => ob (f s) fun a s1 => onRef a fun i => onWht (s1.os.get i) fun _ _ _ _ => ob (g s1) fun args s2 => ob (fn (.ref i :: args) s2.os) fun v o => mkS v s2 o
theorem Rel.whtInst {hk : Heap} {as : List Addr} {st : St} {L : Fm} {h : Heap} (X : Rel C hk as st L h) {i d j1 j2 j3 : Nat} (q : st.os.get i = some (.wht d j1 j2 j3)) {x : Value} (hx : RV C as (.ref i) x) : ∃ a mA, x = .ref a ∧ h.Inst a 163 mA ∧ PySem.Within mA atL := by
  obtain ⟨_, _, _, _, _, _, a, a1, a2, a3, e0, e1, e2, e3, W⟩ := X.S.whtOf q
  obtain ⟨a', ha', rfl⟩ := hx
  rw [e0] at ha'; cases ha'
  obtain ⟨mA, hns, hw, _⟩ := W.ns
  have hne : a1 ≠ a := fun z => by
    subst z
    have := (List.getElem?_inj (List.getElem?_eq_some_iff.mp e0).1 X.S.nodup).mp (e0.trans e1.symm)
    omega
  exact ⟨a, mA, rfl, ⟨_, W.o, rfl, fun c => by simp, .inr ⟨a1, rfl, hne, hns⟩⟩, hw⟩
theorem RefE.callW (O : Ok C) (P : Pg C) {d : DefRec} {q : Str} {fa : Addr} (D : MAt C d q fa) {fn : Fn} {nme : Str} {recv e : Expr} {es : List Expr} {apos pos : Pos} {f fs} (hop : RefF C n fa fn) (hf : RefE C n sc recv f) (hfs : RefL C n sc (e :: es) (cSeq fs)) (hg : d.name = nme)
    (hline : (apos.endLine == pos.line) = true)
    (hbase : ∀ env, attributeBase recv nme env (eval recv env) = eval recv env := by intro _; rfl)
    (hfew : ∀ env, ((backTo pos (starEach (e :: es) env)).all (fun x => !x.1) && (backToKw pos (keywordEach [] env)).all (fun x => x.1.isSome)
      && decide ((e :: es).length + ([] : List Keyword).length + (if ([] : List Keyword).isEmpty then 0 else 1) < 30)) = true := by intro _; rfl)
    (he : ∀ env, starEach (e :: es) env = (false, eval e env) :: starEach es env := by intro _; rfl) :
    RefE C n sc (.Call (.Attribute recv nme apos) (e :: es) [] pos) (cCallW fn f (cSeq fs)) := by
  intro A env E s hk as st st' u Q R F e' X K
  refine ob_elim e' fun a s1 q1 e => onRef_elim e fun i hi e => onWht_elim e fun wd w1 w2 w3 q2 e => ob_elim e fun args s2 q4 e => ob_elim e fun v o q5 z => ?_
  subst hi hg
  obtain ⟨ob, pm, code, doc, ho, hoc, hdt, hcr⟩ := D.fn
  obtain ⟨yy, hyy⟩ := D.obj
  refine call_meth_gen (hbase env) (hfew env) hline (hf R F q1 X fun as1 h1 t1 x p1 X1 hx => ?_)
  obtain ⟨a, mA, rfl, I, hw⟩ := X1.whtInst q2 hx
  refine ⟨.ref fa, fun A' E' pl Q' hq => X1.getMethod P rfl D.ns ho hoc I hw D.off hyy hq, ?_⟩
  refine callWith_meth (h₀ := C.hb) hdt ho (hfs pos R F q4 X1 fun as2 h2 t2 xs p2 X2 hxs => ⟨fun b o e => X2.S.inBase e, ?_⟩) (he env)
  exact hop R q5 X2.S.wide ⟨_, _, rfl, RV.mono (a := .ref i) p2 hx, hxs⟩ fun as3 h3 t3 val p3 Y hv => kRetT z K as3 h3 t3 val (p1.trans (p2.trans p3)) (X2.callee p3 Y) hv
end
end Mine
end
end
section
set_option maxRecDepth 100000
set_option maxHeartbeats 0
set_option linter.unusedVariables false
set_option autoImplicit false
set_option genSizeOf false
set_option genInjectivity false
noncomputable section
namespace Mine
open PySem PySem.W PyProof.Rows
/-! the facts of the Whitespaces: all choices of pieces, by the kernel; a choice that tells what an earlier one tells is not run again -/
theorem all_chunks {α : Type} (p : α → Bool) (k : Nat) : ∀ (n : Nat) (l : List α), l.length ≤ k * n → (∀ i, i < n → ((l.drop (k * i)).take k).all p = true) → l.all p = true
  | 0, l, hl, _ => by
    have : l = [] := List.length_eq_zero_iff.mp (by omega)
    rw [this]; rfl
  | n + 1, l, hl, h => by
    have h0 := h 0 (by omega)
    rw [Nat.mul_zero, List.drop_zero] at h0
    have h1 := all_chunks p k n (l.drop k) (by rw [List.length_drop, Nat.mul_succ] at *; omega) fun i hi => by
      have := h (i + 1) (by omega)
      rwa [show k * (i + 1) = k + k * i by rw [Nat.mul_succ]; omega, ← List.drop_drop] at this
    rw [← List.take_append_drop k l, List.all_append, h0, h1]
    rfl
theorem whtObj_take (cs : List Nat) {m d : Nat} (k : Nat) (h : d ≤ m) : whtObj (cs.take (m - 1)) d k = whtObj cs d k := by
  unfold whtObj wN wNt wTr wCount
  rw [runsOf_take cs m d h]
theorem good2_take (fn : Fn) (cs : List Nat) {m d e : Nat} (r : Bool) (h : d ≤ m) (h2 : e ≤ m) : good2 fn (cs.take (m - 1)) d e r = good2 fn cs d e r := by
  unfold good2
  rw [whtObj_take cs 0 h, whtObj_take cs 4 h2]
theorem good1_take (fn : Fn) (cs : List Nat) {m d : Nat} (r : Bool) (h : d ≤ m) : good1 fn (cs.take (m - 1)) d r = good1 fn cs d r := by
  unfold good1
  rw [whtObj_take cs 0 h]
theorem initGood_take (cs : List Nat) {m d : Nat} (rev : Bool) (c : Nat) (h : d ≤ m) : initGood (cs.take (m - 1)) d rev c = initGood cs d rev c := by
  unfold initGood whtNats wN wNt wTr wCount
  have e : syS (cs.take (m - 1)) (.wtext d rev c) = syS cs (.wtext d rev c) := by
    show wleadS (cs.take (m - 1)) d rev ++ [c] = wleadS cs d rev ++ [c]
    unfold wleadS initS lastS
    rw [runsOf_take cs m d h]
  rw [e, runsOf_take cs m d h]
/-! a choice told by a number -/
noncomputable def dec : Nat → Nat → List Nat
  | 0, _ => []
  | k + 1, i => i % 3 :: dec k (i / 3)
theorem dec_surj : ∀ (k : Nat) (l : List Nat), l.length = k → (∀ x ∈ l, x < 3) → ∃ i, i < 3 ^ k ∧ dec k i = l
  | 0, [], _, _ => ⟨0, by decide, rfl⟩
  | k + 1, x :: l, h, hx => by
    obtain ⟨i, hi, e⟩ := dec_surj k l (by simpa using h) fun y hy => hx y (.tail _ hy)
    have h3 := hx x (.head _)
    refine ⟨3 * i + x, by rw [Nat.pow_succ]; omega, ?_⟩
    show (3 * i + x) % 3 :: dec k ((3 * i + x) / 3) = _
    rw [show (3 * i + x) % 3 = x by omega, show (3 * i + x) / 3 = i by omega, e]
/-- the table `T` has a figure of 1024 for each number: the earlier choice that tells the same -/
noncomputable def chk (good : Nat → Bool) (same : Nat → Nat → Bool) (k : Nat) : Nat → Nat → Bool := Nat.rec (motive := fun _ => Nat → Nat → Bool) (fun _ _ => true)
  (fun _ ih T i => forceN (T % 1024) fun t => match Nat.beq t i with
    | true => match good i with
      | true => forceN (T / 1024) fun T' => forceN (i + 1) (ih T')
      | false => false
    | false => match Nat.blt t i with
      | true => match same i t with
        | true => forceN (T / 1024) fun T' => forceN (i + 1) (ih T')
        | false => false
      | false => false) k
theorem chk_succ (good : Nat → Bool) (same : Nat → Nat → Bool) (k T i : Nat) (e : chk good same (k + 1) T i = true) : (good i = true ∨ ∃ t, t < i ∧ same i t = true) ∧ chk good same k (T / 1024) (i + 1) = true := by
  have e : (forceN (T % 1024) fun t => match Nat.beq t i with
    | true => match good i with
      | true => forceN (T / 1024) fun T' => forceN (i + 1) (chk good same k T')
      | false => false
    | false => match Nat.blt t i with
      | true => match same i t with
        | true => forceN (T / 1024) fun T' => forceN (i + 1) (chk good same k T')
        | false => false
      | false => false) = true := e
  rw [forceN_eq, forceN_eq, forceN_eq] at e
  revert e
  generalize chk good same k (T / 1024) (i + 1) = z
  generalize T % 1024 = t
  intro e
  split at e
  · split at e
    · rename_i q; exact ⟨.inl q, e⟩
    · cases e
  · split at e
    · rename_i q
      split at e
      · rename_i q2; exact ⟨.inr ⟨t, by rwa [Nat.blt_eq] at q, q2⟩, e⟩
      · cases e
    · cases e
theorem chk_get {good : Nat → Bool} {same : Nat → Nat → Bool} : ∀ (k T o : Nat), chk good same k T o = true → ∀ j, j < k → good (o + j) = true ∨ ∃ t, t < o + j ∧ same (o + j) t = true
  | 0, _, _, _, j, h => absurd h (Nat.not_lt_zero j)
  | k + 1, T, o, e, 0, h => (chk_succ good same k T o e).1
  | k + 1, T, o, e, j + 1, h => by
    have := chk_get k _ _ (chk_succ good same k T o e).2 j (Nat.lt_of_succ_lt_succ h)
    rwa [Nat.succ_add_eq_add_succ] at this
theorem chk_all {good : Nat → Bool} {same : Nat → Nat → Bool} (hs : ∀ i t, same i t = true → good t = true → good i = true) (n k : Nat) (hk : 0 < k)
    (h : ∀ q, q < (n + k - 1) / k → ∃ T, chk good same k T (k * q) = true) : ∀ i, i < n → good i = true := by
  intro i
  induction i using Nat.strongRecOn with
  | _ i ih =>
    intro hi
    have hq : i / k < (n + k - 1) / k := by
      rw [Nat.div_lt_iff_lt_mul hk]
      have h1 := Nat.div_add_mod (n + k - 1) k
      have h2 := Nat.mod_lt (n + k - 1) hk
      rw [Nat.mul_comm]
      omega
    obtain ⟨T, e⟩ := h (i / k) hq
    have h1 := Nat.div_add_mod i k
    have h2 := chk_get k T _ e (i % k) (Nat.mod_lt i hk)
    rw [h1] at h2
    rcases h2 with g | ⟨t, ht, g⟩
    · exact g
    · exact hs i t g (ih t ht (Nat.lt_trans ht hi))
noncomputable def wB (a b : List Nat) (d : Nat) : Bool := Nat.beq (wN a d) (wN b d) && Nat.beq (wNt a d) (wNt b d) && Nat.beq (wTr a d) (wTr b d) && (wCount a d == wCount b d)
theorem wB_ok {a b : List Nat} {d : Nat} (h : wB a b d = true) : wN a d = wN b d ∧ wNt a d = wNt b d ∧ wTr a d = wTr b d ∧ wCount a d = wCount b d := by
  unfold wB at h
  simp only [Bool.and_eq_true, Nat.beq_eq, beq_iff_eq] at h
  exact ⟨h.1.1.1, h.1.1.2, h.1.2, h.2⟩
theorem wB_obj {a b : List Nat} {d : Nat} (h : wB a b d = true) (k : Nat) : whtObj a d k = whtObj b d k := by
  obtain ⟨h1, h2, h3, h4⟩ := wB_ok h
  unfold whtObj
  rw [h1, h2, h3, h4]
noncomputable def goodUp (m i : Nat) : Bool := good2 f_less (dec (m - 1) i) (m - 1) m true
noncomputable def sameUp (m i t : Nat) : Bool := wB (dec (m - 1) i) (dec (m - 1) t) (m - 1) && wB (dec (m - 1) i) (dec (m - 1) t) m
theorem sameUp_ok (m i t : Nat) (h : sameUp m i t = true) (g : goodUp m t = true) : goodUp m i = true := by
  unfold sameUp at h
  rw [Bool.and_eq_true] at h
  unfold goodUp good2 at *
  rw [wB_obj h.1 0, wB_obj h.2 4]
  exact g
noncomputable def goodE1 (m i : Nat) : Bool := good1 f_equal (dec (m - 1) i) m true
noncomputable def goodE2 (m i : Nat) : Bool := good2 f_equal (dec (m - 1) i) m m true
noncomputable def sameW1 (m i t : Nat) : Bool := wB (dec (m - 1) i) (dec (m - 1) t) m
theorem sameE1_ok (m i t : Nat) (h : sameW1 m i t = true) (g : goodE1 m t = true) : goodE1 m i = true := by
  unfold goodE1 good1 at *
  rw [wB_obj h 0]
  exact g
theorem sameE2_ok (m i t : Nat) (h : sameW1 m i t = true) (g : goodE2 m t = true) : goodE2 m i = true := by
  unfold goodE2 good2 at *
  rw [wB_obj h 0, wB_obj h 4]
  exact g
noncomputable def goodI (m : Nat) (rev : Bool) (c i : Nat) : Bool := initGood (dec (m - 1) i) m rev c
noncomputable def sameI (m : Nat) (rev : Bool) (c i t : Nat) : Bool := (syS (dec (m - 1) i) (.wtext m rev c) == syS (dec (m - 1) t) (.wtext m rev c)) && wB (dec (m - 1) i) (dec (m - 1) t) m
theorem sameI_ok (m : Nat) (rev : Bool) (c i t : Nat) (h : sameI m rev c i t = true) (g : goodI m rev c t = true) : goodI m rev c i = true := by
  unfold sameI at h
  rw [Bool.and_eq_true, beq_iff_eq] at h
  obtain ⟨h1, h2, h3, h4⟩ := wB_ok h.2
  unfold goodI initGood whtNats at *
  rw [h.1, h1, h2, h3, h4]
  exact g
theorem up5_s (i t : Nat) : sameUp 5 i t = true → goodUp 5 t = true → goodUp 5 i = true := sameUp_ok 5 i t
theorem up5_0 : chk (goodUp 5) (sameUp 5) 81 533903958678127357376593619062785859905583719524504383273786400451106385385652085589917341612921438811531312798848988907717894060643973254255019564708612513505504865269694218138553914665489780267228967031512846968409614918900887313920116655104 0 = true := by decide +kernel
theorem up5 : ∀ i, i < 81 → (goodUp 5) i = true := by
  refine chk_all (good := goodUp 5) (same := sameUp 5) (fun i t => up5_s i t) 81 81 (by decide) ?_
  intro q hq
  match q, hq with
  | 0, _ => exact ⟨_, up5_0⟩
  | q + 1, h => exact absurd h (by omega)
theorem up6_s (i t : Nat) : sameUp 6 i t = true → goodUp 6 t = true → goodUp 6 i = true := sameUp_ok 6 i t
theorem up6_0 : chk (goodUp 6) (sameUp 6) 81 533786671065628089465809285935404620299158584254609540008113218009011859527320183891588487062910593129926994441286963340289989474991531547446015179046203671951367548219880073006377671263829946098730727040258409353891910082476843521999911257088 0 = true := by decide +kernel
theorem up6_1 : chk (goodUp 6) (sameUp 6) 81 1074423806081059793189444893882212056004314825003554492555432091849633858211138047567320327208648813160603024259724623844242873897669221300354771977095596015395469943405814015857953003958521541863265697028894751792571633841245609509618969561169 81 = true := by decide +kernel
theorem up6_2 : chk (goodUp 6) (sameUp 6) 81 1615060941096491496913080501829019491709471065752499445102750965690255856894955911243052167354387033191279054078162284348195758320346911053263528775144988358839572338591747958709528336653213137627800667017531094231251357600014375497238027865250 162 = true := by decide +kernel
theorem up6 : ∀ i, i < 243 → (goodUp 6) i = true := by
  refine chk_all (good := goodUp 6) (same := sameUp 6) (fun i t => up6_s i t) 243 81 (by decide) ?_
  intro q hq
  match q, hq with
  | 0, _ => exact ⟨_, up6_0⟩
  | 1, _ => exact ⟨_, up6_1⟩
  | 2, _ => exact ⟨_, up6_2⟩
  | q + 3, h => exact absurd h (by omega)
theorem up7_s (i t : Nat) : sameUp 7 i t = true → goodUp 7 t = true → goodUp 7 i = true := sameUp_ok 7 i t
theorem up7_0 : chk (goodUp 7) (sameUp 7) 81 533786671065628089465809285935404620299158584254609540008113218009011859527320183891588487062910593129926994441286963340289989474991531547446015179046203671951367548219880073006377671263829946098730727040258409353891910082476843521999911257088 0 = true := by decide +kernel
theorem up7_1 : chk (goodUp 7) (sameUp 7) 81 1074423806081059686586487506290808733091599619158038969185169029019099712489188368339824856342769888895131161881241426828457901328073988856264611993466999218397928325466848148684437156311232495107649817114167174856540636496369816481297580771409 81 = true := by decide +kernel
theorem up7_2 : chk (goodUp 7) (sameUp 7) 81 1614709078258993693180727502446875772890195659942814915148964811405816368672919017444536617735540130501649527269995153243189792731707377105372829655608966382358895496644401246950475395356488569758059888172842591864575007816801106996388174109858 162 = true := by decide +kernel
theorem up7_3 : chk (goodUp 7) (sameUp 7) 81 2155698076111923200636716109775826927414627306501444397650069839530877855578773774918784007500125253221955083896599944852148642743024600806172285573194380702283674733777681901561103669347904733392335637006167436669931081358783141484857086169331 243 = true := by decide +kernel
theorem up7_4 : chk (goodUp 7) (sameUp 7) 81 2696335211127354797757394330131231040207068341404873826827125650540965708540641959367020376779984548987159251336554408340316554596107058114990882387615176248730235511024649977239163154395307282401254727080076202172579807772676114444154755683652 324 = true := by decide +kernel
theorem up7_5 : chk (goodUp 7) (sameUp 7) 81 3236620483305288804351634326287298080005664382189649772790921432927682364724372608471732138172754790593677616725308134755048445999740446364099100049757143412691202682202203075505201393440563357051664798138751619180614179093107404959245349022101 405 = true := by decide +kernel
theorem up7_6 : chk (goodUp 7) (sameUp 7) 81 3777609481158218311807622933616249234530096028748279255292026461052743851630227365945979527937339913313983173351912926364007296011057670064898555967342557732615981919335483730115829667431979520685940546972076463985970252635089439447714261081574 486 = true := by decide +kernel
theorem up7_7 : chk (goodUp 7) (sameUp 7) 81 4318246616173649908928301153971653347322537063651708684469082272062831704592095550394215897217199209079187340791867389852175207864140127373717152781763353279062542696582451805793889152479382069694859637045985229488618979048982412407011930595895 567 = true := by decide +kernel
theorem up7_8 : chk (goodUp 7) (sameUp 7) 81 4858531888351583915522541150127720387121133104436484630432878054449548360775826199498927658609969450685705706180621116266907099267773515622825370443905320443023509867760004904059927391524638144345269708104660646496653350369413702922102523934344 648 = true := by decide +kernel
theorem up7 : ∀ i, i < 729 → (goodUp 7) i = true := by
  refine chk_all (good := goodUp 7) (same := sameUp 7) (fun i t => up7_s i t) 729 81 (by decide) ?_
  intro q hq
  match q, hq with
  | 0, _ => exact ⟨_, up7_0⟩
  | 1, _ => exact ⟨_, up7_1⟩
  | 2, _ => exact ⟨_, up7_2⟩
  | 3, _ => exact ⟨_, up7_3⟩
  | 4, _ => exact ⟨_, up7_4⟩
  | 5, _ => exact ⟨_, up7_5⟩
  | 6, _ => exact ⟨_, up7_6⟩
  | 7, _ => exact ⟨_, up7_7⟩
  | 8, _ => exact ⟨_, up7_8⟩
  | q + 9, h => exact absurd h (by omega)
theorem eqo6_s (i t : Nat) : sameW1 6 i t = true → goodE1 6 t = true → goodE1 6 i = true := sameE1_ok 6 i t
theorem eqo6_0 : chk (goodE1 6) (sameW1 6) 243 75281326435882519346618489311154075027718655497733365936362815941169504806183389982441196805857775600677696475210508728869171902585803071711361324653339679442824781248532534272918318366139426588357683040610106583859855372023048743375119184910904117745859117853434372253178950488417771850302590833222760448810000349994634962792522438727317074538654071238709524727971145513750092104227271841783756578013944914159009763433374686290249505713629442222460610231111678225537446127063476951468177952118469204467341160183731395427220820086575296620884106182074647237835652238315636151612958049982704294165779818991895044265698178951774427678295363586935546749646656137164342013518510258665691803459655909786166516740927380865575413337818112 0 = true := by decide +kernel
theorem eqo6 : ∀ i, i < 243 → (goodE1 6) i = true := by
  refine chk_all (good := goodE1 6) (same := sameW1 6) (fun i t => eqo6_s i t) 243 243 (by decide) ?_
  intro q hq
  match q, hq with
  | 0, _ => exact ⟨_, eqo6_0⟩
  | q + 1, h => exact absurd h (by omega)
theorem eqo7_s (i t : Nat) : sameW1 7 i t = true → goodE1 7 t = true → goodE1 7 i = true := sameE1_ok 7 i t
theorem eqo7_0 : chk (goodE1 7) (sameW1 7) 243 75281326435882519346618489311154075027718655497733365936362815941169504806183389982441196805857775600677696475210508728869171902585803071711361324653339679442824781248532534272918318366139426588357683040610106583859855372023048743375119184910904117745859117853434372253178950488417771850302590833222760448810000349994634962792522438727317074538654071238709524727971145513750092104227271841783756578013944914159009763433374686290249505713629442222460610231111678225537446127063476951468177952118469204467341160183731395427220820086575296620884106182074647237835652238315636151612958049982704294165779818991895044265698178951774427678295363586935546749646656137164342013518510258665691803459655909786166516740927380865575413337818112 0 = true := by decide +kernel
theorem eqo7_1 : chk (goodE1 7) (sameW1 7) 243 150898441356064219599851803040501554701744279258624312946108598504641110844074765297392953528773648358756503726567852811860010452744037837236178323937578543976044967913703481074827410164339192081516017420805820088372285168978926852953065240058829892042571366079371106340475622335715225349118899275193444214313751549203023115830729271364594205600583846403458499234321131888877296193295841287093691262334714888504264945701334579252893077601825618740401573880252620260413232248368189360806361194080221807408815005051755379630506737459550514638313844409672086864594707874266176480751628940064645280681760563569663816940680517530168767578486936713015450031874172556037087340301104042250299375000943553119717718287118770265332660087017715 243 = true := by decide +kernel
theorem eqo7_2 : chk (goodE1 7) (sameW1 7) 243 226466342393410370510336404653449391290661461503526837698416316228093036654097367836388668236724718677072734381525573799397577486633188717480681688876585661579833576636062327601370580844010603345307180031822867913602746643716445529870453798512746999656599771900507314176127631536393866181957563716452133304668728304268495499025664291983223940083478223438922130993635928696774699828868240208783931616146199658079068338477310912357038313725372398801380504219417858313966062889744444620960065050447265329737849132783730442291919392281185471084359884163750980989660901152186060764589851831803713515823264903043066712409691483880461335866815073794917703638544524291572343261897457350176456586007328801041579478138005449117669720261547494 486 = true := by decide +kernel
theorem eqo7 : ∀ i, i < 729 → (goodE1 7) i = true := by
  refine chk_all (good := goodE1 7) (same := sameW1 7) (fun i t => eqo7_s i t) 729 243 (by decide) ?_
  intro q hq
  match q, hq with
  | 0, _ => exact ⟨_, eqo7_0⟩
  | 1, _ => exact ⟨_, eqo7_1⟩
  | 2, _ => exact ⟨_, eqo7_2⟩
  | q + 3, h => exact absurd h (by omega)
theorem eqt6_s (i t : Nat) : sameW1 6 i t = true → goodE2 6 t = true → goodE2 6 i = true := sameE2_ok 6 i t
theorem eqt6_0 : chk (goodE2 6) (sameW1 6) 243 75281326435882519346618489311154075027718655497733365936362815941169504806183389982441196805857775600677696475210508728869171902585803071711361324653339679442824781248532534272918318366139426588357683040610106583859855372023048743375119184910904117745859117853434372253178950488417771850302590833222760448810000349994634962792522438727317074538654071238709524727971145513750092104227271841783756578013944914159009763433374686290249505713629442222460610231111678225537446127063476951468177952118469204467341160183731395427220820086575296620884106182074647237835652238315636151612958049982704294165779818991895044265698178951774427678295363586935546749646656137164342013518510258665691803459655909786166516740927380865575413337818112 0 = true := by decide +kernel
theorem eqt6 : ∀ i, i < 243 → (goodE2 6) i = true := by
  refine chk_all (good := goodE2 6) (same := sameW1 6) (fun i t => eqt6_s i t) 243 243 (by decide) ?_
  intro q hq
  match q, hq with
  | 0, _ => exact ⟨_, eqt6_0⟩
  | q + 1, h => exact absurd h (by omega)
theorem ini5_49_s (i t : Nat) : sameI 5 true 49 i t = true → goodI 5 true 49 t = true → goodI 5 true 49 i = true := sameI_ok 5 true 49 i t
theorem ini5_49_0 : chk (goodI 5 true 49) (sameI 5 true 49) 81 533956078014649428226953419109587703191133629782496514658120562435858712450568615414348917353536119734351358415604316351408468874827821388070688217782826151717755613654874621582268202933026486451902816819825556962712543801518835326352128738304 0 = true := by decide +kernel
theorem ini5_49 : ∀ i, i < 81 → (goodI 5 true 49) i = true := by
  refine chk_all (good := goodI 5 true 49) (same := sameI 5 true 49) (fun i t => ini5_49_s i t) 81 81 (by decide) ?_
  intro q hq
  match q, hq with
  | 0, _ => exact ⟨_, ini5_49_0⟩
  | q + 1, h => exact absurd h (by omega)
theorem ini5_50_s (i t : Nat) : sameI 5 false 50 i t = true → goodI 5 false 50 t = true → goodI 5 false 50 i = true := sameI_ok 5 false 50 i t
theorem ini5_50_0 : chk (goodI 5 false 50) (sameI 5 false 50) 81 533956078014649428226953419109587703191133629782496514658120562435858712450568615414348917353536119734351358415604316351408468874827821388070688217782826151717755613654874621582268202933026486451902816819825556962712543801518835326352128738304 0 = true := by decide +kernel
theorem ini5_50 : ∀ i, i < 81 → (goodI 5 false 50) i = true := by
  refine chk_all (good := goodI 5 false 50) (same := sameI 5 false 50) (fun i t => ini5_50_s i t) 81 81 (by decide) ?_
  intro q hq
  match q, hq with
  | 0, _ => exact ⟨_, ini5_50_0⟩
  | q + 1, h => exact absurd h (by omega)
theorem ini5_51_s (i t : Nat) : sameI 5 true 51 i t = true → goodI 5 true 51 t = true → goodI 5 true 51 i = true := sameI_ok 5 true 51 i t
theorem ini5_51_0 : chk (goodI 5 true 51) (sameI 5 true 51) 81 533956078014649428226953419109587703191133629782496514658120562435858712450568615414348917353536119734351358415604316351408468874827821388070688217782826151717755613654874621582268202933026486451902816819825556962712543801518835326352128738304 0 = true := by decide +kernel
theorem ini5_51 : ∀ i, i < 81 → (goodI 5 true 51) i = true := by
  refine chk_all (good := goodI 5 true 51) (same := sameI 5 true 51) (fun i t => ini5_51_s i t) 81 81 (by decide) ?_
  intro q hq
  match q, hq with
  | 0, _ => exact ⟨_, ini5_51_0⟩
  | q + 1, h => exact absurd h (by omega)
theorem ini6_49_s (i t : Nat) : sameI 6 true 49 i t = true → goodI 6 true 49 t = true → goodI 6 true 49 i = true := sameI_ok 6 true 49 i t
theorem ini6_49_0 : chk (goodI 6 true 49) (sameI 6 true 49) 81 533956078014649428226953419109587703191133629782496514658120562435858712450568615414348917353536119734351358415604316351408468874827821388070688217782826151717755613654874621582268202933026486451902816819825556962712543801518835326352128738304 0 = true := by decide +kernel
theorem ini6_49_1 : chk (goodI 6 true 49) (sameI 6 true 49) 81 1074593213030081131950589027056395138896289870531441467205439436276480711134386479090080757499274339765027388234041976855361353297505511140979445015832218495161858008840808564433843535627718082216437786808461899401392267560287601313971187042385 81 = true := by decide +kernel
theorem ini6_49_2 : chk (goodI 6 true 49) (sameI 6 true 49) 81 1615230348045512302659437697046185960037870082052808936566695465364682643272656022896807993157478552264636047523257564724599701010754554653515210567381977520463171132170011891910442799255531160037938851569037752324529445155460499046204247805090 162 = true := by decide +kernel
theorem ini6_49 : ∀ i, i < 243 → (goodI 6 true 49) i = true := by
  refine chk_all (good := goodI 6 true 49) (same := sameI 6 true 49) (fun i t => ini6_49_s i t) 243 81 (by decide) ?_
  intro q hq
  match q, hq with
  | 0, _ => exact ⟨_, ini6_49_0⟩
  | 1, _ => exact ⟨_, ini6_49_1⟩
  | 2, _ => exact ⟨_, ini6_49_2⟩
  | q + 3, h => exact absurd h (by omega)
theorem ini6_50_s (i t : Nat) : sameI 6 false 50 i t = true → goodI 6 false 50 t = true → goodI 6 false 50 i = true := sameI_ok 6 false 50 i t
theorem ini6_50_0 : chk (goodI 6 false 50) (sameI 6 false 50) 81 533956078014649428226953419109587703191133629782496514658120562435858712450568615414348917353536119734351358415604316351408468874827821388070688217782826151717755613654874621582268202933026486451902816819825556962712543801518835326352128738304 0 = true := by decide +kernel
theorem ini6_50_1 : chk (goodI 6 false 50) (sameI 6 false 50) 81 1074593213030081131950589027056395138896289870531441467205439436276480711134386479090080757499274339765027388234041976855361353297505511140979445015832218495161858008840808564433843535627718082216437786808461899401392267560287601313971187042385 81 = true := by decide +kernel
theorem ini6_50_2 : chk (goodI 6 false 50) (sameI 6 false 50) 81 1615230348045512302659437697046185960037870082052808936566695465364682643272656022896807993157478552264636047523257564724599701010754554653515210567381977520463171132170011891910442799255531160037938851569037752324529445155460499046204247805090 162 = true := by decide +kernel
theorem ini6_50 : ∀ i, i < 243 → (goodI 6 false 50) i = true := by
  refine chk_all (good := goodI 6 false 50) (same := sameI 6 false 50) (fun i t => ini6_50_s i t) 243 81 (by decide) ?_
  intro q hq
  match q, hq with
  | 0, _ => exact ⟨_, ini6_50_0⟩
  | 1, _ => exact ⟨_, ini6_50_1⟩
  | 2, _ => exact ⟨_, ini6_50_2⟩
  | q + 3, h => exact absurd h (by omega)
theorem ini7_49_s (i t : Nat) : sameI 7 true 49 i t = true → goodI 7 true 49 t = true → goodI 7 true 49 i = true := sameI_ok 7 true 49 i t
theorem ini7_49_0 : chk (goodI 7 true 49) (sameI 7 true 49) 81 533956078014649428226953419109587703191133629782496514658120562435858712450568615414348917353536119734351358415604316351408468874827821388070688217782826151717755613654874621582268202933026486451902816819825556962712543801518835326352128738304 0 = true := by decide +kernel
theorem ini7_49_1 : chk (goodI 7 true 49) (sameI 7 true 49) 81 1074593213030081131950589027056395138896289870531441467205439436276480711134386479090080757499274339765027388234041976855361353297505511140979445015832218495161858008840808564433843535627718082216437786808461899401392267560287601313971187042385 81 = true := by decide +kernel
theorem ini7_49_2 : chk (goodI 7 true 49) (sameI 7 true 49) 81 1615230348045512302659437697046185960037870082052808936566695465364682643272656022896807993157478552264636047523257564724599701010754554653515210567381977520463171132170011891910442799255531160037938851569037752324529445155460499046204247805090 162 = true := by decide +kernel
theorem ini7_49_3 : chk (goodI 7 true 49) (sameI 7 true 49) 81 2155867483060944539397860242950010010306602352029331372300077183957724708502022206441544437790750779826379447870917297863267122142860890646796958611931003182050062799212676450136994201017101273745507726785734584278751715077825133289209303650547 243 = true := by decide +kernel
theorem ini7_49_4 : chk (goodI 7 true 49) (sameI 7 true 49) 81 2696504618076376243121495850896817446011758592778276324847396057798346707185840070117276277936488999857055477689354958367220006565538580399705715409980395525494165194398610392988569533711792869510042696774370926717431438836593899276828361954628 324 = true := by decide +kernel
theorem ini7_49_5 : chk (goodI 7 true 49) (sameI 7 true 49) 81 3237141753091807413830344520886608267153338804299643794208652086886548639324109613924003513594693212356664136978570546236458354278787623912241480961530154550795478317727813720465168797339605947331543761534946779640568616431766797009061422717333 405 = true := by decide +kernel
theorem ini7_49_6 : chk (goodI 7 true 49) (sameI 7 true 49) 81 3777778888107238158127363640510785796644058192438949277021057840172814518225940501835527065662870286261187586669840673840425308835908480894417978756225991966336222033969912843274036967645480463186842190555992210346377267907702388732016133119462 486 = true := by decide +kernel
theorem ini7_49_7 : chk (goodI 7 true 49) (sameI 7 true 49) 81 4318416023122669542042127085683383263611068815651347739656739007161984476982429373589856143116088124249812756445889156711049549970067226390415982553157532667145871035463767616071833210503120351071934102103736474718093350468040218325011844606249 567 = true := by decide +kernel
theorem ini7_49_8 : chk (goodI 7 true 49) (sameI 7 true 49) 81 4859053158138100925956890530855980730578079438863746202292420174151154435738918245344185220569305962238437926221937639581673791104225971886413986350089012256876231003796636128911397243430820724057944458467351869855008702464358237762959182538376 648 = true := by decide +kernel
theorem ini7_49 : ∀ i, i < 729 → (goodI 7 true 49) i = true := by
  refine chk_all (good := goodI 7 true 49) (same := sameI 7 true 49) (fun i t => ini7_49_s i t) 729 81 (by decide) ?_
  intro q hq
  match q, hq with
  | 0, _ => exact ⟨_, ini7_49_0⟩
  | 1, _ => exact ⟨_, ini7_49_1⟩
  | 2, _ => exact ⟨_, ini7_49_2⟩
  | 3, _ => exact ⟨_, ini7_49_3⟩
  | 4, _ => exact ⟨_, ini7_49_4⟩
  | 5, _ => exact ⟨_, ini7_49_5⟩
  | 6, _ => exact ⟨_, ini7_49_6⟩
  | 7, _ => exact ⟨_, ini7_49_7⟩
  | 8, _ => exact ⟨_, ini7_49_8⟩
  | q + 9, h => exact absurd h (by omega)
noncomputable def csM (m : Nat) : List (List Nat) := csAll (m - 1)
theorem csM_mem {cs : List Nat} (hl : cs.length = 6) (hx : ∀ x ∈ cs, x < 3) {m : Nat} (h : m ≤ 7) : cs.take (m - 1) ∈ csM m :=
  csAll_mem _ _ (by rw [List.length_take]; omega) fun x hx' => hx x (List.mem_of_mem_take hx')
theorem at_dec {cs : List Nat} (hl : cs.length = 6) (hx : ∀ x ∈ cs, x < 3) (m : Nat) (h : m ≤ 7) : ∃ i, i < 3 ^ (m - 1) ∧ dec (m - 1) i = cs.take (m - 1) :=
  dec_surj _ _ (by rw [List.length_take]; omega) fun x hx' => hx x (List.mem_of_mem_take hx')
noncomputable def downAt (m : Nat) (cs : List Nat) : Bool := (List.range m).all fun e => good2 f_less cs m (e + 1) false
noncomputable def upAt (m : Nat) (cs : List Nat) : Bool := good2 f_less cs (m - 1) m true
noncomputable def eq2At (m : Nat) : Bool := (csM m).all fun cs => good2 f_equal cs m m true
noncomputable def eq1At (m : Nat) : Bool := (csM m).all fun cs => good1 f_equal cs m true
noncomputable def initAt (m : Nat) : Bool := (csM m).all fun cs => (List.range 8).all fun r => match wdom m (Nat.beq (r % 2) 1) (48 + r) with
  | true => initGood cs m (Nat.beq (r % 2) 1) (48 + r)
  | false => true
theorem down1 : (csM 1).all (downAt 1) = true := by decide +kernel
theorem down2 : (csM 2).all (downAt 2) = true := by decide +kernel
theorem down3 : (csM 3).all (downAt 3) = true := by decide +kernel
theorem down4 : (csM 4).all (downAt 4) = true := by decide +kernel
theorem down5 : (csM 5).all (downAt 5) = true := by decide +kernel
theorem down6_0 : (((csM 6).drop (81 * 0)).take 81).all (downAt 6) = true := by decide +kernel
theorem down6_1 : (((csM 6).drop (81 * 1)).take 81).all (downAt 6) = true := by decide +kernel
theorem down6_2 : (((csM 6).drop (81 * 2)).take 81).all (downAt 6) = true := by decide +kernel
theorem down6_len : (csM 6).length ≤ 81 * 3 := by decide +kernel
theorem down6 : (csM 6).all (downAt 6) = true := all_chunks _ 81 3 _ down6_len fun i hi => by
  match i, hi with
  | 0, _ => exact down6_0
  | 1, _ => exact down6_1
  | 2, _ => exact down6_2
  | k + 3, h => omega
theorem le6 {P : Nat → Prop} (h1 : P 1) (h2 : P 2) (h3 : P 3) (h4 : P 4) (h5 : P 5) (h6 : P 6) : ∀ m, 1 ≤ m → m ≤ 6 → P m := by
  intro m a b
  rcases m with _ | _ | _ | _ | _ | _ | _ | m
  · exact absurd a (Nat.not_succ_le_self 0)
  · exact h1
  · exact h2
  · exact h3
  · exact h4
  · exact h5
  · exact h6
  · exact absurd (Nat.le_trans (Nat.le_add_left 7 m) b) (Nat.not_succ_le_self 6)
theorem down_all : ∀ m, 1 ≤ m → m ≤ 6 → (csM m).all (downAt m) = true := le6 down1 down2 down3 down4 down5 down6
theorem up2 : (csM 2).all (upAt 2) = true := by decide +kernel
theorem up3 : (csM 3).all (upAt 3) = true := by decide +kernel
theorem up4 : (csM 4).all (upAt 4) = true := by decide +kernel
theorem wdom_bd {d c : Nat} {rev : Bool} (h : wdom d rev c = true) : d < 8 ∧ c < 56 := by
  unfold wdom at h
  split at h
  · rename_i q
    have q := Nat.eq_of_beq_eq_true q
    simp only [Bool.and_eq_true, Bool.not_eq_true'] at h
    have h1 := Nat.eq_of_beq_eq_true h.1
    omega
  · simp only [Bool.and_eq_true, Nat.ble_eq] at h
    omega
theorem wdom_tab : ∀ d, d < 8 → ∀ c, c < 56 → ∀ rev, wdom d rev c = true → (1 ≤ d ∧ d ≤ 7 ∧ 48 ≤ c ∧ c < 56 ∧ rev = Nat.beq (c % 2) 1 ∧ (2 ≤ d → 49 ≤ c ∧ c + d ≤ 56)) := by
  have h : ∀ d : Fin 8, ∀ c : Fin 56, ∀ rev, wdom d.1 rev c.1 = true → (1 ≤ d.1 ∧ d.1 ≤ 7 ∧ 48 ≤ c.1 ∧ c.1 < 56 ∧ rev = Nat.beq (c.1 % 2) 1 ∧ (2 ≤ d.1 → 49 ≤ c.1 ∧ c.1 + d.1 ≤ 56)) := by decide +kernel
  exact fun d hd c hc => h ⟨d, hd⟩ ⟨c, hc⟩
theorem c6 : ∀ d, d < 8 → ∀ c, c < 56 → 5 ≤ d → 49 ≤ c → c + d ≤ 56 → (d = 5 ∧ c = 49) ∨ (d = 5 ∧ c = 50) ∨ (d = 5 ∧ c = 51) ∨ (d = 6 ∧ c = 49) ∨ (d = 6 ∧ c = 50) ∨ (d = 7 ∧ c = 49) := by
  have h : ∀ d : Fin 8, ∀ c : Fin 56, 5 ≤ d.1 → 49 ≤ c.1 → c.1 + d.1 ≤ 56 → (d.1 = 5 ∧ c.1 = 49) ∨ (d.1 = 5 ∧ c.1 = 50) ∨ (d.1 = 5 ∧ c.1 = 51) ∨ (d.1 = 6 ∧ c.1 = 49) ∨ (d.1 = 6 ∧ c.1 = 50) ∨ (d.1 = 7 ∧ c.1 = 49) := by decide +kernel
  exact fun d hd c hc => h ⟨d, hd⟩ ⟨c, hc⟩
theorem c48 {c : Nat} (h : 48 ≤ c) (h2 : c < 56) : c - 48 < 8 ∧ (c - 48) % 2 = c % 2 ∧ 48 + (c - 48) = c := by omega
section
variable {cs : List Nat} (hl : cs.length = 6) (hx : ∀ x ∈ cs, x < 3)
include hl hx
theorem up_all : ∀ d, 1 ≤ d → d ≤ 6 → good2 f_less cs d (d + 1) true = true := by
  have small : ∀ m, m ≤ 7 → (csM m).all (upAt m) = true → good2 f_less cs (m - 1) m true = true := fun m hm h => by
    have := List.all_eq_true.mp h _ (csM_mem hl hx hm)
    unfold upAt at this
    rwa [good2_take f_less cs true (by omega) (Nat.le_refl m)] at this
  have big : ∀ m, m ≤ 7 → (∀ i, i < 3 ^ (m - 1) → goodUp m i = true) → good2 f_less cs (m - 1) m true = true := fun m hm h => by
    obtain ⟨i, hi, e⟩ := at_dec hl hx m hm
    have := h i hi
    unfold goodUp at this
    rw [e] at this
    rwa [good2_take f_less cs true (by omega) (Nat.le_refl m)] at this
  exact le6 (small 2 (by omega) up2) (small 3 (by omega) up3) (small 4 (by omega) up4) (big 5 (by omega) up5) (big 6 (by omega) up6) (big 7 (by omega) up7)
theorem eq1_all : ∀ d, 1 ≤ d → d ≤ 7 → good1 f_equal cs d true = true := by
  have small : ∀ m, m ≤ 7 → eq1At m = true → good1 f_equal cs m true = true := fun m hm h => by
    have := List.all_eq_true.mp h _ (csM_mem hl hx hm)
    rwa [good1_take f_equal cs true (Nat.le_refl m)] at this
  have big : ∀ m, m ≤ 7 → (∀ i, i < 3 ^ (m - 1) → goodE1 m i = true) → good1 f_equal cs m true = true := fun m hm h => by
    obtain ⟨i, hi, e⟩ := at_dec hl hx m hm
    have := h i hi
    unfold goodE1 at this
    rw [e] at this
    rwa [good1_take f_equal cs true (Nat.le_refl m)] at this
  intro d h1 h7
  rcases Nat.lt_or_ge d 7 with q | q
  · exact le6 (P := fun d => good1 f_equal cs d true = true) (small 1 (by omega) (by decide +kernel)) (small 2 (by omega) (by decide +kernel)) (small 3 (by omega) (by decide +kernel)) (small 4 (by omega) (by decide +kernel)) (small 5 (by omega) (by decide +kernel)) (big 6 (by omega) eqo6) d h1 (by omega)
  · have : d = 7 := by omega
    subst this
    exact big 7 (by omega) eqo7
theorem eq2_all : ∀ d, 1 ≤ d → d ≤ 6 → good2 f_equal cs d d true = true := by
  have small : ∀ m, m ≤ 7 → eq2At m = true → good2 f_equal cs m m true = true := fun m hm h => by
    have := List.all_eq_true.mp h _ (csM_mem hl hx hm)
    rwa [good2_take f_equal cs true (Nat.le_refl m) (Nat.le_refl m)] at this
  have big : ∀ m, m ≤ 7 → (∀ i, i < 3 ^ (m - 1) → goodE2 m i = true) → good2 f_equal cs m m true = true := fun m hm h => by
    obtain ⟨i, hi, e⟩ := at_dec hl hx m hm
    have := h i hi
    unfold goodE2 at this
    rw [e] at this
    rwa [good2_take f_equal cs true (Nat.le_refl m) (Nat.le_refl m)] at this
  exact le6 (P := fun d => good2 f_equal cs d d true = true) (small 1 (by omega) (by decide +kernel)) (small 2 (by omega) (by decide +kernel)) (small 3 (by omega) (by decide +kernel)) (small 4 (by omega) (by decide +kernel)) (small 5 (by omega) (by decide +kernel)) (big 6 (by omega) eqt6)
theorem init_all (d : Nat) (rev : Bool) (c : Nat) (h : wdom d rev c = true) : initGood cs d rev c = true := by
  have hd := wdom_tab d (wdom_bd h).1 c (wdom_bd h).2 rev h
  obtain ⟨h1, h7, c1, c2, hr, hc⟩ := hd
  have small : d ≤ 7 → initAt d = true → initGood cs d rev c = true := fun hm hh => by
    have h1' := List.all_eq_true.mp hh _ (csM_mem hl hx hm)
    obtain ⟨c3, e, e3⟩ := c48 c1 c2
    have h2' := List.all_eq_true.mp h1' (c - 48) (List.mem_range.mpr c3)
    rw [e3, e, ← hr, h] at h2'
    rw [← initGood_take cs rev c (Nat.le_refl d)]
    exact h2'
  have big : d ≤ 7 → (∀ i, i < 3 ^ (d - 1) → goodI d rev c i = true) → initGood cs d rev c = true := fun hm hh => by
    obtain ⟨i, hi, e⟩ := at_dec hl hx d hm
    have := hh i hi
    unfold goodI at this
    rw [e] at this
    rwa [initGood_take cs rev c (Nat.le_refl d)] at this
  rcases Nat.lt_or_ge d 5 with q | q
  · have : ∀ m, 1 ≤ m → m ≤ 6 → m < 5 → initAt m = true := le6 (P := fun m => m < 5 → initAt m = true) (fun _ => by decide +kernel) (fun _ => by decide +kernel) (fun _ => by decide +kernel) (fun _ => by decide +kernel) (fun h => by omega) (fun h => by omega)
    exact small h7 (this d h1 (Nat.le_of_lt (Nat.lt_of_lt_of_le q (by decide))) q)
  · obtain ⟨h49, h56⟩ := hc (Nat.le_trans (by decide) q)
    have cases6 := c6 d (wdom_bd h).1 c c2 q h49 h56
    rcases cases6 with ⟨rfl, rfl⟩ | ⟨rfl, rfl⟩ | ⟨rfl, rfl⟩ | ⟨rfl, rfl⟩ | ⟨rfl, rfl⟩ | ⟨rfl, rfl⟩
    · have : rev = true := hr.trans (by decide)
      subst this
      exact big (by omega) ini5_49
    · have : rev = false := hr.trans (by decide)
      subst this
      exact big (by omega) ini5_50
    · have : rev = true := hr.trans (by decide)
      subst this
      exact big (by omega) ini5_51
    · have : rev = true := hr.trans (by decide)
      subst this
      exact big (by omega) ini6_49
    · have : rev = false := hr.trans (by decide)
      subst this
      exact big (by omega) ini6_50
    · have : rev = true := hr.trans (by decide)
      subst this
      exact big (by omega) ini7_49
theorem wOk_of : WOk cs where
  init := init_all hl hx
  less := by
    intro d e h1 h6 h2 h3
    rcases Nat.lt_or_ge d e with q | q
    · have : e = d + 1 := by omega
      subst this
      rw [show Nat.blt d (d + 1) = true by rw [Nat.blt_eq]; omega]
      exact up_all hl hx d h1 h6
    · have h1' := List.all_eq_true.mp (List.all_eq_true.mp (down_all d h1 h6) _ (csM_mem hl hx (by omega))) (e - 1) (List.mem_range.mpr (by omega))
      have hb : Nat.blt d e = false := by
        cases hq : Nat.blt d e with
        | false => rfl
        | true => rw [Nat.blt_eq] at hq; omega
      rw [show e - 1 + 1 = e by omega, good2_take f_less cs false (Nat.le_refl d) q] at h1'
      rw [hb]
      exact h1'
  eq2 := eq2_all hl hx
  eq1 := eq1_all hl hx
end
end Mine
end
end
section
set_option maxRecDepth 100000
set_option maxHeartbeats 0
set_option linter.unusedVariables false
set_option linter.unusedSectionVars false
set_option autoImplicit false
set_option genSizeOf false
set_option genInjectivity false
noncomputable section
namespace Mine
open PySem PySem.W PyProof.Rows
section
variable {C : Cx} {n : Nat}
noncomputable def b14 : St → Option (AF × St) := (cThen (cAsg (aName 19) (cList [])) (cThen (cAsg (aName 4) (cList [])) (cThen (cFor false (cIter (cSlice (cMeth 2 oSplit (cMeth 2 oJoin (cStr []) (cSeq [(cComp false (cIter (cVar 18)) (aName 21) cYes (cCall oChr (cSeq [(cVar 21)])) [])])) (cSeq [(cStr [13, 10])])) cNone (cNeg (cInt 1)))) (aName 20) (cThen (cAsg (aName 22) (cMeth 2 oCount (cVar 20) (cSeq [(cStr [46])]))) (cThen (cAsg (aName 23) (cMeth 2 oSplit (cMeth 2 oJoin (cStr []) (cSeq [(cSlice (cVar 3) cNone (cVar 22))])) (cSeq [(cStr [9])]))) (cThen (cIf (cCmp oInS (cItemF (cVar 20) (cNeg (cInt 1))) (cStr [49, 51, 53])) (cThen (cAsg (aName 23) (cBin opAddR (cRevR (cSliceX slRuns (cVar 23) cNone (cNeg (cInt 1)))) (cSliceX slRuns (cVar 23) (cNeg (cInt 1)) cNone))) cEnd) cEnd) (cThen (cAsg (aName 24) (cCall oWht (cSeq [(cBin opAddR (cMeth 2 oJoin (cStr [9]) (cSeq [(cVar 23)])) (cSliceX slStr (cVar 20) (cVar 22) cNone))]))) (cThen (cAsg (aName 25) (cVar 24)) (cThen (cWhL (cAndB (cTrF (cVar 19)) (cNotB (cTrF (cCallW oLessW (cItemF (cItemF (cVar 19) (cNeg (cInt 1))) (cInt 0)) (cSeq [(cVar 24)]))))) (cThen (cAsg (aName 25) (cItemF (cMeth0 1 oPop (cVar 19)) (cInt 0))) cEnd) 200) (cThen (cIf (cNotB (cTrF (cCallW oEqualW (cVar 25) (cSeq [(cVar 24)])))) (cThen (cRet (cList [])) cEnd) cEnd) (cThen (cAsg (aName 14) (cBin opAddF (cIfE (cTrF (cVar 19)) (cBin opAddF (cItemF (cItemF (cVar 19) (cNeg (cInt 1))) (cInt 1)) (cStr [46])) (cStr [])) (cItemF (cVar 20) (cNeg (cInt 1))))) (cThen (cExpr (cMeth 1 oAppend (cVar 19) (cSeq [(cTup [(cVar 24), (cVar 14)])]))) (cThen (cExpr (cMeth 1 oAppend (cVar 4) (cSeq [(cBin opAddF (cVar 14) (cStr [10]))]))) cEnd))))))))))) (cThen (cRet (cVar 4)) cEnd))))
theorem s14 (O : Ok C) (P : Pg C) (P2 : Pg2 C) (B : Bn C) {A : Nat → Addr} (D : ∀ j ∈ fnIx, FnAt C (defK j) (A j)) (cok : CsOk C.cs) (W : WOk C.cs) : RefSs C (n + 2) ⟨(defK 14).scope, true⟩ (defK 14).body (b14) :=
  (RefSs.cons (by exact (RefS.asg (RefE.list RefL.nil) ⟨by decide, .inl (by decide +kernel)⟩)) (RefSs.cons (by exact (RefS.asg (RefE.list RefL.nil) ⟨by decide, .inl (by decide +kernel)⟩)) (RefSs.cons (by exact (RefS.for (RefI.val O (RefE.slice (RefE.meth (k := 1) (oSplit_ok cok) (RefE.meth (k := 1) (oJoin_ok cok) (RefE.str (by decide +kernel)) (RefL.cons (RefE.comp (RefI.val O (RefE.var (k := 18) (by decide +kernel))) (.name _ _) (fr := []) ⟨by decide +kernel, by decide +kernel, by decide +kernel, by decide +kernel, rfl, by decide +kernel, by decide +kernel, by decide +kernel, by decide⟩ (RefA.name ⟨by decide, .inl (by decide +kernel)⟩) RefTs.nil (RefE.callB O oChr_ok (RefL.cons (RefE.var (k := 21) (by decide +kernel)) RefL.nil) (.b "chr") (by decide +kernel) (B.no _ (by decide +kernel)) rfl rfl (by decide))) RefL.nil) F.plainAttrs_str F.slot_str_join F.type_str_join rfl) (RefL.cons (RefE.str (by decide +kernel)) RefL.nil) F.plainAttrs_str F.slot_str_split F.type_str_split rfl) RefO.none (RefO.some (RefE.neg RefE.int)))) (.name _ _) (RefA.name ⟨by decide, .inl (by decide +kernel)⟩) (RefSs.cons (by exact (RefS.asg (RefE.meth (k := 1) oCount_ok (RefE.var (k := 20) (by decide +kernel)) (RefL.cons (RefE.str (by decide +kernel)) RefL.nil) F.plainAttrs_str F.slot_str_count F.type_str_count rfl) ⟨by decide, .inl (by decide +kernel)⟩)) (RefSs.cons (by exact (RefS.asg (RefE.meth (k := 1) (oSplit_ok cok) (RefE.meth (k := 1) (oJoin_ok cok) (RefE.str (by decide +kernel)) (RefL.cons (RefE.slice (RefE.var (k := 3) (by decide +kernel)) RefO.none (RefO.some (RefE.var (k := 22) (by decide +kernel)))) RefL.nil) F.plainAttrs_str F.slot_str_join F.type_str_join rfl) (RefL.cons (RefE.str (by decide +kernel)) RefL.nil) F.plainAttrs_str F.slot_str_split F.type_str_split rfl) ⟨by decide, .inl (by decide +kernel)⟩)) (RefSs.cons (by exact (RefS.ite (RefB.cmp oInS_ok (RefE.itemF (RefE.var (k := 20) (by decide +kernel)) (RefE.neg RefE.int)) (RefE.str (by decide +kernel)) rfl) (RefSs.cons (by exact (RefS.asg (RefE.addR cok (RefE.revR cok (RefE.sliceX (slRuns_ok cok) (RefE.var (k := 23) (by decide +kernel)) RefO.none (RefO.some (RefE.neg RefE.int)))) (RefE.sliceX (slRuns_ok cok) (RefE.var (k := 23) (by decide +kernel)) (RefO.some (RefE.neg RefE.int)) RefO.none)) ⟨by decide, .inl (by decide +kernel)⟩)) RefSs.nil) RefSs.nil)) (RefSs.cons (by exact (RefS.asg (RefE.callCls O P P2 (r_wht O P P2 B W) (RefL.cons (RefE.addR cok (RefE.meth (k := 1) (oJoin_ok cok) (RefE.str (by decide +kernel)) (RefL.cons (RefE.var (k := 23) (by decide +kernel)) RefL.nil) F.plainAttrs_str F.slot_str_join F.type_str_join rfl) (RefE.sliceX slStr_ok (RefE.var (k := 20) (by decide +kernel)) (RefO.some (RefE.var (k := 22) (by decide +kernel))) RefO.none)) RefL.nil) (by decide +kernel)) ⟨by decide, .inl (by decide +kernel)⟩)) (RefSs.cons (by exact (RefS.asg (RefE.var (k := 24) (by decide +kernel)) ⟨by decide, .inl (by decide +kernel)⟩)) (RefSs.cons (by exact (RefS.while (RefB.and (RefB.valF (RefE.var (k := 19) (by decide +kernel))) (RefB.not (RefB.valF (RefE.callW O P (mat_less P) (r_lessW O P P2 B W) (RefE.itemF (RefE.itemF (RefE.var (k := 19) (by decide +kernel)) (RefE.neg RefE.int)) RefE.int) (RefL.cons (RefE.var (k := 24) (by decide +kernel)) RefL.nil) rfl rfl)))) (RefSs.cons (by exact (RefS.asg (RefE.itemF (RefE.meth0 (k := 0) oPop_ok (RefE.var (k := 19) (by decide +kernel)) F.plainAttrs_list F.slot_list_pop F.type_list_pop rfl) RefE.int) ⟨by decide, .inl (by decide +kernel)⟩)) RefSs.nil))) (RefSs.cons (by exact (RefS.ite (RefB.not (RefB.valF (RefE.callW O P (mat_equal P) (r_equalW O P P2 B W) (RefE.var (k := 25) (by decide +kernel)) (RefL.cons (RefE.var (k := 24) (by decide +kernel)) RefL.nil) rfl rfl))) (RefSs.cons (by exact (RefS.ret (RefE.list RefL.nil))) RefSs.nil) RefSs.nil)) (RefSs.cons (by exact (RefS.asg (RefE.addF (RefE.ite (RefB.valF (RefE.var (k := 19) (by decide +kernel))) (RefE.addF (RefE.itemF (RefE.itemF (RefE.var (k := 19) (by decide +kernel)) (RefE.neg RefE.int)) RefE.int) (RefE.str (by decide +kernel))) (RefE.str (by decide +kernel))) (RefE.itemF (RefE.var (k := 20) (by decide +kernel)) (RefE.neg RefE.int))) ⟨by decide, .inl (by decide +kernel)⟩)) (RefSs.cons (by exact (RefS.expr (RefE.meth (k := 0) oAppend_ok (RefE.var (k := 19) (by decide +kernel)) (RefL.cons (RefE.tup (RefL.cons (RefE.var (k := 24) (by decide +kernel)) (RefL.cons (RefE.var (k := 14) (by decide +kernel)) RefL.nil))) RefL.nil) F.plainAttrs_list F.slot_list_append F.type_list_append rfl) (by intro env h; unfold interactive; rw [h]; rfl))) (RefSs.cons (by exact (RefS.expr (RefE.meth (k := 0) oAppend_ok (RefE.var (k := 4) (by decide +kernel)) (RefL.cons (RefE.addF (RefE.var (k := 14) (by decide +kernel)) (RefE.str (by decide +kernel))) RefL.nil) F.plainAttrs_list F.slot_list_append F.type_list_append rfl) (by intro env h; unfold interactive; rw [h]; rfl))) RefSs.nil)))))))))))) (RefSs.cons (by exact (RefS.ret (RefE.var (k := 4) (by decide +kernel)))) RefSs.nil))))
noncomputable def f14 : Fn := fnOf [18, 3] b14
theorem r14 (O : Ok C) (P : Pg C) (P2 : Pg2 C) (B : Bn C) (cok : CsOk C.cs) (W : WOk C.cs) {A : Nat → Addr} (D : ∀ j ∈ fnIx, FnAt C (defK j) (A j)) : RefF C (n + 3) (A 14) f14 :=
  RefF.mk O (D 14 (by decide)) (s14 O P P2 B D cok W) (by intro s pm code doc vals h; obtain ⟨a0, a1, rfl⟩ := len2 h; exact BindsTo.of_eq (by kernel_rfl)) (by decide) (by decide) (by decide +kernel) (by decide +kernel) (by decide +kernel) (by decide +kernel) (by decide +kernel)
end
end Mine
end
end
section
set_option maxRecDepth 100000
set_option maxHeartbeats 0
set_option linter.unusedVariables false
set_option linter.unusedSectionVars false
set_option autoImplicit false
set_option genSizeOf false
set_option genInjectivity false
noncomputable section
namespace Mine
open PySem PySem.W PyProof.Rows
section
variable {C : Cx} {n : Nat} {sc : Sc}
/-! [' ', '\t', ' \t'][heap // 4 % 3] -/
noncomputable def isPcs (l : List AV) : Option Unit := on3 l fun a b c => onStr a fun x => onStr b fun y => onStr c fun z => bT (eqL x [32]) <| bT (eqL y [9]) <| bT (eqL z [32, 9]) <| some ()
theorem isPcs_is {l : List AV} {u : Unit} (h : isPcs l = some u) : l = [.str [32], .str [9], .str [32, 9]] :=
  on3_elim h fun a b c h1 e => onStr_elim e fun x h2 e => onStr_elim e fun y h3 e => onStr_elim e fun z h4 e => bT_elim e fun q1 e => bT_elim e fun q2 e => bT_elim e fun q3 _ => by rw [h1, h2, h3, h4, eqL_is q1, eqL_is q2, eqL_is q3]
noncomputable def cItemP (f g : St → Option (AV × St)) : St → Option (AV × St) := fun s => ob (f s) fun a s1 => ob (g s1) fun b s2 => onRef a fun i => onList (s2.os.get i) fun xs => o1 (isPcs xs) fun _ => onIdx b fun j => some (.sym (.pc (Nat.succ j)), s2)
theorem piece_at {C : Cx} {j : Nat} {t0 t1 t2 : Tok} : ∃ t, (#[Value.str ⟨#[32]⟩ t0, .str ⟨#[9]⟩ t1, .str ⟨#[32, 9]⟩ t2] : Array Value)[(C.h j / 4 % 3).toNat]? = some (.str ⟨(pcS C.cs (j + 1)).toArray⟩ t) := by
  have hcs : C.cs.getD j 0 = (C.h j / 4 % 3).toNat := by
    unfold Cx.cs Cx.h
    rw [List.getD_eq_getElem?_getD, List.getD_eq_getElem?_getD, List.getElem?_map]
    cases C.hp[j]? <;> rfl
  have hpc : pcS C.cs (j + 1) = pieceS (C.h j / 4 % 3).toNat := by
    show pieceS (C.cs.getD j 0) = _
    rw [hcs]
  rw [hpc]
  have h3 : C.h j / 4 % 3 = 0 ∨ C.h j / 4 % 3 = 1 ∨ C.h j / 4 % 3 = 2 := by omega
  rcases h3 with h3 | h3 | h3
  · rw [h3]; exact ⟨t0, rfl⟩
  · rw [h3]; exact ⟨t1, rfl⟩
  · rw [h3]; exact ⟨t2, rfl⟩
theorem idx_3 (x : Int) : 0 ≤ x % 3 ∧ x % 3 < 2 ^ 63 := by omega
theorem RefE.itemP {x i : Expr} {pos : Pos} {f g} (hf : RefE C n sc x f) (hg : RefE C n sc i g) (hs : ∀ o y, subscripted i false o y = operate [o, y] (getItem o y) := by intro _ _; rfl) : RefE C n sc (.Subscript x i pos) (cItemP f g) := by
  intro A env E s hk as st st' v Q R F e X K
  refine ob_elim e fun a s1 q1 e => ob_elim e fun b s2 q2 e => onRef_elim e fun i hi e => onList_elim e fun xs q3 e => o1_elim e fun u q4 e => onIdx_elim e fun j hj z => ?_
  have q4 := isPcs_is q4
  subst hi hj q4
  refine Subscript_ (hf R F q1 X fun as1 h1 t1 x p1 X1 hx => hg R F q2 X1 fun as2 h2 t2 y p2 X2 hy => ?_)
  refine X2.listE q3 (hx.mono p2) fun l items m ha hl hr => ?_
  obtain ⟨t, rfl⟩ := hy
  obtain ⟨v0, v1, v2, rfl, ⟨t0, rfl⟩, ⟨t1', rfl⟩, ⟨t2', rfl⟩⟩ := rvs3L hr
  refine tail_any hl.isList.typeIs slot_list_getitem.lookup ?_ (hs _ _)
  have b := idx_3 (C.h j / 4)
  obtain ⟨tp, hp⟩ := piece_at (C := C) (j := j) (t0 := t0) (t1 := t1') (t2 := t2')
  exact wpAny_getItem_list hl.isList b.1 b.2 hp (kRetT z K as2 h2 t2 _ (p1.trans p2) X2 ⟨tp, rfl⟩)
end
section
variable {C : Cx} {n : Nat}
noncomputable def b20a : St → Option (AF × St) := (cAsg (aName 1) (cCall f10 (cSeq [(cVar 0)])))
theorem s20a (O : Ok C) (P : Pg C) (P2 : Pg2 C) (B : Bn C) {A : Nat → Addr} (D : ∀ j ∈ fnIx, FnAt C (defK j) (A j)) : RefS C (n + 1) ⟨(defK 20).scope, true⟩ ((defK 20).body.headD (.Pass ⟨0, 0, 0, 0⟩)) b20a :=
  (RefS.asg (RefE.callF O (D _ (by decide)) (r10 O P P2 B D) (RefL.cons (RefE.var (k := 0) (by decide +kernel)) RefL.nil) rfl (by decide +kernel) rfl) ⟨by decide, .inl (by decide +kernel)⟩)
noncomputable def b20b : St → Option (AF × St) := (cThen (cAsg (aName 2) (cCall f11 (cSeq [(cVar 1)]))) (cThen (cAsg (aName 3) (cBin opAddF (cList [(cStr [9])]) (cComp false (cIter (cVar 1)) (aName 10) cYes (cItemP (cList [(cStr [32]), (cStr [9]), (cStr [32, 9])]) (cBin (opP pMod) (cBin (opP pDiv) (cVar 10) (cInt 4)) (cInt 3))) []))) (cThen (cAsg (aName 4) (cCall f14 (cSeq [(cCall f13 (cSeq [(cVar 1)])), (cVar 3)]))) (cThen (cIf (cCmp listNeA (cVar 4) (cCall (f12 9) (cSeq [(cInt 0), (cStr [48]), (cVar 2)]))) (cThen (cRet (cBool false)) cEnd) cEnd) (cThen (cAsg (aName 5) (cCall f15 (cSeq [(cVar 4)]))) (cThen (cAsg (aName 6) (cCall (f16 9) (cSeq [(cStr [48, 10]), (cVar 5)]))) (cThen (cIf (cCmp listNeA (cCall oSorted (cSeq [(cVar 6)])) (cCall oSorted (cSeq [(cVar 4)]))) (cThen (cRet (cBool false)) cEnd) cEnd) cEnd)))))))
theorem s20b (O : Ok C) (P : Pg C) (P2 : Pg2 C) (B : Bn C) {A : Nat → Addr} (D : ∀ j ∈ fnIx, FnAt C (defK j) (A j)) (cok : CsOk C.cs) (W : WOk C.cs) : RefSs C (n + 12) ⟨(defK 20).scope, true⟩ (((defK 20).body.drop 1).take 7) b20b :=
  (RefSs.cons (by exact (RefS.asg (RefE.callF O (D _ (by decide)) (r11 O P B D) (RefL.cons (RefE.var (k := 1) (by decide +kernel)) RefL.nil) rfl (by decide +kernel) rfl) ⟨by decide, .inl (by decide +kernel)⟩)) (RefSs.cons (by exact (RefS.asg (RefE.addF (RefE.list (RefL.cons (RefE.str (by decide +kernel)) RefL.nil)) (RefE.comp (RefI.val O (RefE.var (k := 1) (by decide +kernel))) (.name _ _) (fr := []) ⟨by decide +kernel, by decide +kernel, by decide +kernel, by decide +kernel, rfl, by decide +kernel, by decide +kernel, by decide +kernel, by decide⟩ (RefA.name ⟨by decide, .inl (by decide +kernel)⟩) RefTs.nil (RefE.itemP (RefE.list (RefL.cons (RefE.str (by decide +kernel)) (RefL.cons (RefE.str (by decide +kernel)) (RefL.cons (RefE.str (by decide +kernel)) RefL.nil)))) (RefE.mod (RefE.floordiv (RefE.var (k := 10) (by decide +kernel)) RefE.int) RefE.int)))) ⟨by decide, .inl (by decide +kernel)⟩)) (RefSs.cons (by exact (RefS.asg (RefE.callF O (D _ (by decide)) (r14 O P P2 B cok W D) (RefL.cons (RefE.callF O (D _ (by decide)) (r13 O P B D) (RefL.cons (RefE.var (k := 1) (by decide +kernel)) RefL.nil) rfl (by decide +kernel) rfl) (RefL.cons (RefE.var (k := 3) (by decide +kernel)) RefL.nil)) rfl (by decide +kernel) rfl) ⟨by decide, .inl (by decide +kernel)⟩)) (RefSs.cons (by exact (RefS.ite (RefB.cmp listNe_ok (RefE.var (k := 4) (by decide +kernel)) (RefE.callF O (D _ (by decide)) (r12 (n := n + 3) O P B D 9) (RefL.cons RefE.int (RefL.cons (RefE.str (by decide +kernel)) (RefL.cons (RefE.var (k := 2) (by decide +kernel)) RefL.nil))) rfl (by decide +kernel) rfl) rfl) (RefSs.cons (by exact (RefS.ret RefE.bool)) RefSs.nil) RefSs.nil)) (RefSs.cons (by exact (RefS.asg (RefE.callF O (D _ (by decide)) (r15 O P P2 B D) (RefL.cons (RefE.var (k := 4) (by decide +kernel)) RefL.nil) rfl (by decide +kernel) rfl) ⟨by decide, .inl (by decide +kernel)⟩)) (RefSs.cons (by exact (RefS.asg (RefE.callF O (D _ (by decide)) (r16 (n := n + 3) O P B D 9) (RefL.cons (RefE.str (by decide +kernel)) (RefL.cons (RefE.var (k := 5) (by decide +kernel)) RefL.nil)) rfl (by decide +kernel) rfl) ⟨by decide, .inl (by decide +kernel)⟩)) (RefSs.cons (by exact (RefS.ite (RefB.cmp listNe_ok (RefE.callB O oSorted_ok (RefL.cons (RefE.var (k := 6) (by decide +kernel)) RefL.nil) (.b "sorted") (by decide +kernel) (B.no _ (by decide +kernel)) rfl rfl (by decide)) (RefE.callB O oSorted_ok (RefL.cons (RefE.var (k := 4) (by decide +kernel)) RefL.nil) (.b "sorted") (by decide +kernel) (B.no _ (by decide +kernel)) rfl rfl (by decide)) rfl) (RefSs.cons (by exact (RefS.ret RefE.bool)) RefSs.nil) RefSs.nil)) RefSs.nil)))))))
end
end Mine
end
end
section
set_option maxRecDepth 100000
set_option maxHeartbeats 0
set_option linter.unusedVariables false
set_option linter.unusedSectionVars false
set_option autoImplicit false
set_option genSizeOf false
set_option genInjectivity false
noncomputable section
namespace Mine
open PySem PySem.W PyProof.Rows
/-! _law_make: its loop, its test, its store -/
noncomputable def b17f : St → Option (AF × St) := cFor false (cIter (cItemF (cVar 5) (cVar 26))) (aName 13) (cThen (cExpr (cMeth 4 oDpop (cVar 30) (cSeq [cVar 13]))) cEnd)
noncomputable def t17 : St → Option (Bool × St) := cCmp oGe (cCall oLen (cSeq [cVar 30])) (cVar 31)
noncomputable def p17 : St → Option (AF × St) := cPut (cTup [cInt 250, cStr [109, 97, 100, 101]]) (cVar 30) (cVar 26)
noncomputable def on4 {α β : Type} (l : List α) (k : α → α → α → α → Option β) : Option β := match l with
  | [x, y, z, u] => k x y z u
  | _ => none
theorem on4_elim {α β : Type} {l : List α} {k : α → α → α → α → Option β} {r : β} {P : Prop} (e : on4 l k = some r) (h : ∀ x y z u, l = [x, y, z, u] → k x y z u = some r → P) : P := by
  cases l with
  | nil => exact noS e
  | cons x l => cases l with
    | nil => exact noS e
    | cons y l => cases l with
      | nil => exact noS e
      | cons z l => cases l with
        | nil => exact noS e
        | cons u l => cases l with
          | nil => exact h x y z u rfl e
          | cons _ _ => exact noS e
noncomputable def isNext {β : Type} (fl : AF) (k : Option β) : Option β := match fl with
  | .next => k
  | _ => none
theorem isNext_elim {β : Type} {fl : AF} {k : Option β} {r : β} {P : Prop} (e : isNext fl k = some r) (h : fl = .next → k = some r → P) : P := by
  cases fl <;> first | exact noS e | exact h rfl e
/-- some: it raises, with that value -/
noncomputable def mk17 (args : List AV) (os : Store) : Option (Option AV × Store) := on4 args fun a b c d => ob (b17f ⟨zipL [26, 5, 30, 31] [a, b, c, d], os⟩) fun fl s1 => isNext fl <| ob (t17 s1) fun t s2 =>
  bIf t (o1 (lk 30 s2.loc) fun w => some (some w, s2.os)) (ob (p17 s2) fun fl s3 => isNext fl <| some (none, s3.os))
/-! _law_refusals -/
noncomputable def a18 : St → Option (List AV × St) := cSeq [cVar 26, cVar 5, cVar 30, cBin opAddF (cInt 1) (cCall oSum (cSeq [cSlice (cVar 32) (cNeg (cInt 1)) cNone]))]
noncomputable def x18 : Nat → AI → St → Option (Option AV × St)
  | 0, _, _ => none
  | k + 1, ai, s => o1 (nextA false ai s.os) fun r => nx r (fun v ai' os => o1 (withS s os (aName 26 v)) fun s1 => ob (a18 s1) fun args s2 => ob (mk17 args s2.os) fun b os3 => withS s2 os3 fun s3 => oC b (fun w => some (some w, s3)) (x18 k ai' s3)) (some (none, s))
noncomputable def i18 : St → Option (AI × St) := cIter (cVar 6)
/-- what is told of the ones in hand -/
noncomputable def h18 (w : AV) : St → Option (AF × St) := fun s => bT (!(has 34 s.loc)) <| o1 (lk 32 s.loc) fun q => onRef q fun l => onRef w fun i => onDS (s.os.get i) fun es => bT (Nat.ble es.length 2000) <| o1 (appO l (.int (.ofNat es.length)) s.os) fun o2 => mkS .next s o2
noncomputable def try18 : St → Option (AF × St) := fun s => ob (i18 s) fun ai s1 => ob (x18 200 ai s1) fun r s2 => oC r (fun w => h18 w s2) (cThen (cRet (cVar 32)) cEnd s2)
noncomputable def b18 : St → Option (AF × St) := cThen (cAsg (aName 32) (cList [])) (cThen (cFor false i18 (aName 33) (cThen (cAsg (aName 30) cDictS) (cThen try18 cEnd))) (cThen (cRet (cVar 32)) cEnd))
noncomputable def f18 : Fn := fnOf [6, 5] b18
noncomputable def e20 : St → Option (Bool × St) := cCmp listEqA (cCall f18 (cSeq [cVar 6, cVar 5])) (cListRange (cInt 1) (cCall f19 (cSeq [cVar 2])))
noncomputable def lawAt (l : List AV) : Option Unit := o1 (addAll st0 [.list l]) fun os => ob (b20b ⟨[(1, .ref 0)], os⟩) fun fl s1 => isNext fl <| ob (e20 s1) fun b _ => bT b (some ())
noncomputable def law20 (l : List AV) : Bool := (lawAt l).isSome
/-- the heaps, told by how many are hung -/
noncomputable def heapsL : Nat → Nat → Nat → List (List AV)
  | 0, _, _ => [[]]
  | f + 1, k, m => (List.range (min m 4)).flatMap (fun r => (heapsL f (k + 1) (m - r + 1)).map (AV.res r k :: ·)) ++ (if m ≤ 3 then (heapsL f (k + 1) 1).map (AV.big m k :: ·) else [])
end Mine
end
end
section
set_option maxRecDepth 100000
set_option maxHeartbeats 0
set_option linter.unusedVariables false
set_option linter.unusedSectionVars false
set_option autoImplicit false
set_option genSizeOf false
set_option genInjectivity false
noncomputable section
namespace Mine
open PySem PySem.W PyProof.Rows
/-! an exception in flight, its own dict kept in sight -/
noncomputable def TrD (base : Heap) (e : Addr) (cls : Value) (dx : Addr) (a0 fl : Value) (h : Heap) : Prop :=
  ∃ oe vs T oT ts, h.get? e = some oe ∧ (oe.cls = cls ∧ vs[0]? = some a0) ∧ oe.dict = some dx ∧ oe.data = .fields vs ∧ vs[1]? = some (.ref T) ∧ base.get? T = none ∧ T ≠ e ∧ h.get? T = some oT ∧ oT.data = .fields ts ∧ ts[3]? = some fl
theorem TrD.traced {base h : Heap} {e dx : Addr} {cls a0 fl : Value} (x : TrD base e cls dx a0 fl h) : h.TracedAtW base e cls a0 fl :=
by
  obtain ⟨oe, vs, T, oT, ts, a, b, _, r⟩ := x
  exact ⟨oe, vs, T, oT, ts, a, b, r⟩
theorem TrD.there {base h : Heap} {e dx : Addr} {cls a0 fl : Value} (x : TrD base e cls dx a0 fl h) : ∃ oe vs, h.get? e = some oe ∧ oe.cls = cls ∧ oe.dict = some dx ∧ oe.data = .fields vs :=
by
  obtain ⟨oe, vs, T, oT, ts, a, b, c, d, _⟩ := x
  exact ⟨oe, vs, a, b.1, c, d⟩
/-- the whole of it -/
structure Fly (base : Heap) (l : List Env) (e : Addr) (cls : Value) (dx : Addr) (a0 fl : Value) (h : Heap) : Prop where
  stays : base.StaysIn h
  new : base.get? e = none
  frames : h.FunFrames base l
  tr : TrD base e cls dx a0 fl h
section
variable {M : Model} {A : Around} {E : Value → Shared → Prop} {s : Shared}
theorem dict_mapFields (o : Obj) (f : Array Value → Array Value) : (Obj.mapFields f o).dict = o.dict := by
  obtain ⟨c, d, dt, sl⟩ := o
  cases dt <;> rfl
theorem entryD {base : Heap} {env : Env} {outer : List Env} {L e dx : Addr} {oe : Obj} {vs : Array Value} {head a0 : Value} {hadNext : Bool} {Q : Unit → Shared → Prop}
    (hfr : A.frames = some (env :: outer)) (hl : s.heap.FunFrames base (env :: outer)) (hf : env.frame = some L) (he : s.heap.get? e = some oe) (hdx : oe.dict = some dx) (hkb : base.StaysIn s.heap) (hen : base.get? e = none)
    (hd : oe.data = .fields vs) (hsz : 1 < vs.size) (h0 : vs[0]? = some a0)
    (h : ∀ h', Fly base (env :: outer) e oe.cls dx a0 (rawInt L) h' → s.heap.UpToSlots h' → Q () { s with heap := h' }) :
    wpAny M A (do let a ← frameOf env; let pl ← entryPlaceOf L hadNext; let b ← EntryCells.newEntry head a .none (rawInt L) .none pl; setField (.ref e) 1 b) Q E s := by
  have rec_ne : ∀ {g : Heap} {x : Addr} {ox : Obj} {ws : Array Value}, g.get? x = some ox → ox.data = .fields ws → ∀ b o, g.get? b = some o → (∀ vs, o.data ≠ .fields vs) → b ≠ x := fun hx hdx b o hb hn q => by
    rw [q, hx] at hb
    cases hb
    exact hn _ hdx
  have hout : e ∉ (env :: outer).filterMap (·.frame) := fun hm => by
    obtain ⟨_, o, ho, hn⟩ := hl.mem hm
    exact rec_ne he hd e o ho hn rfl
  refine wpAny_bind (wpAny_frameOf_fun hfr hl hf fun g hg => ?_)
  refine wpAny_bind (wpAny_entryPlaceOf fun pl hpl => ?_)
  unfold EntryCells.newEntry newFields
  refine wpAny_bind (wpAny_newObj_type ?_ (hpl.sizeOk5 _ _ _ _ _))
  generalize hen : ([head, Value.ref L, Value.none, rawInt L, Value.none] ++ (if pl.isEmpty then List.replicate 6 Value.none else pl)) = ent
  have ge : g.get? e = some oe := (hg.2.1 e hout).trans he
  have kg : base.StaysIn g := fun b o hb => (hg.2.1 b fun hm => by rw [(hl.mem hm).1] at hb; cases hb).trans (hkb b o hb)
  have pe := Heap.get?_push_of_some (h := g) { cls := .type "traceback", dict := none, data := .fields ent.toArray } ge
  have hne : g.objs.size ≠ e := Nat.ne_of_gt (Heap.lt_size ge)
  have fd := Obj.data_mapFields hd (·.setIfInBounds 1 (Value.ref g.objs.size))
  refine wpAny_setField pe hd hsz (h _ ⟨fun b o hb => ?_, ‹base.get? e = none›, hl.of_keeps fun b o hb hn => ?_, ?_⟩ fun b o hb hn => ?_)
  · have hbe : b ≠ e := fun q => by rw [q, ‹base.get? e = none›] at hb; cases hb
    rw [Heap.get?_update_other _ _ (Ne.symm hbe)]
    exact Heap.get?_push_of_some _ (kg b o hb)
  · obtain ⟨sl, hs⟩ := hg.2.2 b o hb
    refine ⟨{ o with slots := sl }, ?_, rfl⟩
    rw [Heap.get?_update_other _ _ (Ne.symm (rec_ne he hd b o hb hn))]
    exact Heap.get?_push_of_some _ hs
  · refine ⟨_, _, g.objs.size, { cls := .type "traceback", dict := none, data := .fields ent.toArray }, ent.toArray, Heap.get?_update_self _ pe (Obj.isFreed_of_fields fd), ⟨Obj.cls_mapFields _ _, by rw [Array.getElem?_setIfInBounds_ne (by decide)]; exact h0⟩, by rw [dict_mapFields]; exact hdx, fd, by simp [hsz], kg.fresh, hne, ?_, rfl, ?_⟩
    · rw [Heap.get?_update_other _ _ (Ne.symm hne)]
      exact Heap.get?_push_size g rfl
    · rw [← hen]
      simp
  · obtain ⟨sl, hs⟩ := hg.2.2 b o hb
    refine ⟨sl, ?_⟩
    rw [Heap.get?_update_other _ _ (Ne.symm (rec_ne he hd b o hb hn))]
    exact Heap.get?_push_of_some _ hs
/-- the first frame -/
theorem noteFirstD {base : Heap} {env : Env} {outer : List Env} {L e dx : Addr} {oe : Obj} {vs : Array Value} {a0 : Value} {Q : Unit → Shared → Prop}
    (hfr : A.frames = some (env :: outer)) (hl : s.heap.FunFrames base (env :: outer)) (hf : env.frame = some L) (he : s.heap.get? e = some oe) (hdx : oe.dict = some dx) (hkb : base.StaysIn s.heap) (hen : base.get? e = none)
    (hd : oe.data = .fields vs) (h1 : vs[1]? = some .none) (h0 : vs[0]? = some a0)
    (h : ∀ h', Fly base (env :: outer) e oe.cls dx a0 (rawInt L) h' → s.heap.UpToSlots h' → Q () { s with heap := h' }) : wpAny M A (noteFrame (.ref e) env) Q E s := by
  unfold noteFrame
  simp only [hf]
  refine wpAny_bind (wpAny_field he hd h1 ?_)
  rw [if_neg (by decide)]
  exact entryD hfr hl hf he hdx hkb hen hd (Array.getElem?_eq_some_iff.mp h1).1 h0 h
/-- the flight's mark taken -/
theorem setFlightD {base : Heap} {l : List Env} {e dx : Addr} {cls a0 fl : Value} {Q : Unit → Shared → Prop} (F : Fly base l e cls dx a0 fl s.heap)
    (h : ∀ h', Fly base l e cls dx a0 .none h' → s.heap.UpToSlots h' → Q () { s with heap := h' }) : wpAny M A (setFlight (.ref e) none) Q E s := by
  obtain ⟨oe, vs, T, oT, ts, he, hc, hdx, hd, h1, hnT, hTe, hT, hdT, h3⟩ := F.tr
  have hsz : 3 < ts.size := (Array.getElem?_eq_some_iff.mp h3).1
  have fdT := Obj.data_mapFields hdT (·.setIfInBounds 3 ((none : Option Addr).elim Value.none fun f => rawInt f))
  have other : ∀ b, b ≠ T → (s.heap.update T (Obj.mapFields (·.setIfInBounds 3 ((none : Option Addr).elim Value.none fun f => rawInt f)))).get? b = s.heap.get? b := fun b hb => Heap.get?_update_other _ _ (Ne.symm hb)
  have nT : ∀ b o, s.heap.get? b = some o → (∀ vs, o.data ≠ .fields vs) → b ≠ T := fun b o hb hn q => by
    rw [q, hT] at hb
    cases hb
    exact hn _ hdT
  unfold setFlight
  refine wpAny_bind (wpAny_field he hd h1 ?_)
  rw [if_pos (show (Value.ref T != Value.none) = true from by simp)]
  refine wpAny_setField hT hdT hsz (h _ ⟨fun b o hb => ?_, F.new, F.frames.of_keeps fun b o hb hn => ⟨o, (other b (nT b o hb hn)).trans hb, rfl⟩, ?_⟩ fun b o hb hn => ⟨o.slots, (other b (nT b o hb hn)).trans hb⟩)
  · exact (other b fun q => by rw [q, hnT] at hb; cases hb).trans (F.stays b o hb)
  · exact ⟨oe, vs, T, _, _, (other e (Ne.symm hTe)).trans he, hc, hdx, hd, h1, hnT, hTe, Heap.get?_update_self _ hT (Obj.isFreed_of_fields fdT), fdT, by simp [hsz]⟩
/-- a further frame -/
theorem noteNextD {base : Heap} {env : Env} {outer : List Env} {L e dx : Addr} {cls a0 : Value} {Q : Unit → Shared → Prop}
    (hfr : A.frames = some (env :: outer)) (hf : env.frame = some L) (F : Fly base (env :: outer) e cls dx a0 .none s.heap)
    (h : ∀ h', Fly base (env :: outer) e cls dx a0 (rawInt L) h' → s.heap.UpToSlots h' → Q () { s with heap := h' }) : wpAny M A (noteFrame (.ref e) env) Q E s := by
  obtain ⟨oe, vs, T, oT, ts, he, ⟨hc, h0⟩, hdx, hd, h1, hnT, hTe, hT, hdT, h3⟩ := F.tr
  subst hc
  have other : ∀ b, b ≠ T → (s.heap.update T (Obj.mapFields (·.setIfInBounds 3 Value.none))).get? b = s.heap.get? b := fun b hb => Heap.get?_update_other _ _ (Ne.symm hb)
  have nT : ∀ b o, s.heap.get? b = some o → (∀ vs, o.data ≠ .fields vs) → b ≠ T := fun b o hb hn q => by
    rw [q, hT] at hb
    cases hb
    exact hn _ hdT
  unfold noteFrame
  simp only [hf]
  refine wpAny_bind (wpAny_field he hd h1 ?_)
  rw [if_pos (show (Value.ref T != Value.none) = true from by simp)]
  refine wpAny_bind (wpAny_field hT hdT h3 ?_)
  rw [if_neg (show ¬ ((Value.none == rawInt L) = true) from by simp [rawInt])]
  refine wpAny_bind (wpAny_setField hT hdT (Array.getElem?_eq_some_iff.mp h3).1 ?_)
  exact entryD hfr (F.frames.of_keeps fun b o hb hn => ⟨o, (other b (nT b o hb hn)).trans hb, rfl⟩) hf ((other e (Ne.symm hTe)).trans he) hdx
    (fun b o hb => (other b fun q => by rw [q, hnT] at hb; cases hb).trans (F.stays b o hb)) F.new hd (Array.getElem?_eq_some_iff.mp h1).1 h0
    fun h' G U => h h' G fun b o hb hn => U b o ((other b (nT b o hb hn)).trans hb) hn
/-- a frame left -/
theorem leaveD {base : Heap} {env : Env} {outer : List Env} {L e dx : Addr} {oe : Obj} {vs : Array Value} {a0 : Value} {Q : Unit → Shared → Prop}
    (hfr : A.frames = some (env :: outer)) (hl : s.heap.FunFrames base (env :: outer)) (hf : env.frame = some L) (he : s.heap.get? e = some oe) (hdx : oe.dict = some dx) (hkb : base.StaysIn s.heap) (hen : base.get? e = none)
    (hd : oe.data = .fields vs) (h1 : vs[1]? = some .none) (h0 : vs[0]? = some a0)
    (h : ∀ h', Fly base (env :: outer) e oe.cls dx a0 .none h' → s.heap.UpToSlots h' → Q () { s with heap := h' }) : wpAny M A (leaving env (.ref e)) Q E s := by
  unfold leaving
  refine wpAny_bind (noteFirstD hfr hl hf he hdx hkb hen hd h1 h0 fun g G U => ?_)
  exact setFlightD G fun g' G' U' => h g' G' (U.trans U')
end
end Mine
end
end
section
set_option maxRecDepth 100000
set_option maxHeartbeats 0
set_option linter.unusedVariables false
set_option linter.unusedSectionVars false
set_option autoImplicit false
set_option genSizeOf false
set_option genInjectivity false
noncomputable section
namespace Mine
open PySem PySem.W PyProof.Rows PySem.Calls Builtin Builtin.OSError
/-! SMTPRecipientsRefused(..): made -/
theorem os_entry : entryFor table "OSError.__new__" = some Builtin.«OSError.__new__» := entryFor_of_tree (by kernel_rfl)
theorem os_kind : builtinKind "OSError.__new__" = some .builtinFn := by decide +kernel
theorem os_split : splitId "OSError.__new__" = some ("OSError", "__new__") := by decide +kernel
theorem os_row : Manifest.signature? "OSError.__new__" = some ⟨.constructor, "*", "OSError", .cls, [⟨"args", .varPos, false⟩]⟩ := by kernel_rfl
theorem os_canon : (Manifest.canonical "OSError.__new__" == "OSError.__new__") = true := by decide +kernel
theorem os_quiet : ("OSError.__new__" : String).startsWith "lifetime." = false := by decide +kernel
structure MakesE (M : Model) (h : Heap) (C fI : Addr) : Prop where
  obj : ∃ oc od cd sl, h.get? C = some ⟨oc, od, .cls cd, sl⟩ ∧ cd.abstract = false ∧ cd.hasDel = false ∧ cd.mro.isEmpty = false
  made : Looks M h (Bind.madeBy (.ref C)) (some "OSError.__new__")
  base : Looks M h (Bind.staticBase (.ref C)) (.ref C)
  self : Looks M h (isSubtype (.ref C) (.ref C)) true
  os : Looks M h (isSubtype (.ref C) (.type "OSError")) true
  call : Looks M h (specialOf (.ref C) "__call__") (some (.builtin "type.__call__"))
  typ : Looks M h (isInstance (.ref C) (.type "type")) true
  init : Looks M h (typeLookup (.ref C) "__init__") (some (.ref fI))
theorem e_lookup (p : Params) : ∃ oc od cd sl, (hd.heap_1 p).lookup 92 = some ⟨oc, od, .cls cd, sl⟩ ∧ cd.abstract = false ∧ cd.hasDel = false ∧ cd.mro.isEmpty = false ∧ (sl.toList[4]?).join = some (.builtin "OSError.__new__") := ⟨_, _, _, _, rfl, rfl, rfl, rfl, rfl⟩
theorem e_self (p : Params) : mroIn (hd.heap_1 p) 92 (.ref 92) = some true := by kernel_rfl
theorem e_os (p : Params) : mroIn (hd.heap_1 p) 92 (.type "OSError") = some true := by kernel_rfl
theorem e_call (p : Params) : specialIn (hd.heap_1 p) (.ref 92) "__call__" = some (some (.builtin "type.__call__")) := by kernel_rfl
theorem e_typ (p : Params) : instIn (hd.heap_1 p) (.ref 92) (.type "type") = some true := by kernel_rfl
theorem e_init (p : Params) : findIn (hd.heap_1 p) (.ref 92) "__init__" = some (some (.ref 89)) := by kernel_rfl
theorem e_fn (p : Params) : typeIn (hd.heap_1 p) (.ref 89) = some (.type "function") := by kernel_rfl
theorem makesE_of {M : Model} {h : Heap} {p : Params} (X : (hd.heap_1 p).In h) : MakesE M h 92 89 := by
  obtain ⟨oc, od, cd, sl, ho, e1, e2, e4, e3⟩ := e_lookup p
  have hc : clsIn (hd.heap_1 p) 92 = some cd := by unfold clsIn; rw [ho]
  have hm : Looks M h (mroOf (.ref 92)) cd.mro := (looks_clsIn X hc).andThen .now
  obtain ⟨c, l, hl⟩ : ∃ c l, cd.mro = c :: l := by cases q : cd.mro with | nil => rw [q] at e4; cases e4 | cons c l => exact ⟨c, l, rfl⟩
  have made : Looks M h (Bind.madeBy (.ref 92)) (some "OSError.__new__") := by
    intro A Q E s k q
    unfold Bind.madeBy
    refine wpAny_bind (hm A _ E s k ?_)
    rw [hl, List.forIn_cons]
    refine wpAny_bind (wpAny_bind (wpAny_bind (wpAny_bind (wpAny_loadPart (k _ _ (X _ _ ho)) (wpAny_pure ?_)))))
    dsimp only
    rw [← Array.getElem?_toList, e3]
    exact wpAny_pure (wpAny_pure (wpAny_pure q))
  refine ⟨⟨oc, od, cd, sl, X _ _ ho, e1, e2, e4⟩, made, ?_, looks_mroIn X (e_self p), looks_mroIn X (e_os p), looks_specialIn X (e_call p), looks_instIn X (e_typ p), looks_findIn X (e_init p)⟩
  intro A Q E s k q
  unfold Bind.staticBase
  refine wpAny_bind (hm A _ E s k ?_)
  rw [hl, List.forIn_cons]
  exact wpAny_bind (wpAny_bind (wpAny_bind (made A _ E s k (wpAny_pure (wpAny_pure (wpAny_pure q))))))
noncomputable abbrev excNew (C t : Addr) : Obj := { cls := .ref C, data := .fields #[.ref t, .none, .none, .none, .bool false, .none, rawInt 0, rawInt 0, rawInt 0, rawInt 0, rawInt (-1)] }
noncomputable abbrev tupNew : Obj := { cls := .type "tuple", data := .seq #[] }
section
variable {prog' : Program} {w : World} {A : Around} {C fI : Addr} {R : Result → Shared → Prop} {h : Heap} {g : Array GenState} {d : Drawn} {t : Nat} {os : OsState}
theorem osnew {v : Value} (Y : MakesE (model prog' w) h C fI)
    (hq : R (.ok (.ret (.ref (h.objs.size + 1)))) ⟨(h.push tupNew).push (excNew C h.objs.size), g, d, t, os⟩) :
    codeAny (model prog' w) A (.call (.builtin "OSError.__new__") ⟨[.ref C, v], []⟩) R ⟨h, g, d, t, os⟩ := by
  obtain ⟨⟨oc, od, cd, sl, hC, e1, e2, e4⟩, made, base, self, osb, call, typ, init⟩ := Y
  refine codeAny_call_builtin_code (Code.quiet_builtin _ os_quiet) ?_
  simp only [checkBuiltinCall, os_kind, os_split, os_row]
  repeat (first | with_reducible refine w_neg (by (first | exact Bool.false_ne_true | decide | (rw [bne_self_eq_false]; exact Bool.false_ne_true) | (simp only [Option.map_some, os_canon, bne_self_eq_false, Bool.not_true]; exact Bool.false_ne_true))) ?_ | with_reducible refine w_pos (by (first | rfl | decide | (simp only [Option.map_some, os_canon]; done) | exact os_canon | (rw [Option.map_some]; decide +kernel))) ?_ | lk)
  refine codeAny_builtin os_entry ?_
  unfold Builtin.«OSError.__new__» osReadsInInit
  repeat (first | with_reducible refine w_neg (by (first | exact Bool.false_ne_true | decide | (rw [bne_self_eq_false]; exact Bool.false_ne_true) | (simp only [Option.map_some, os_canon, bne_self_eq_false, Bool.not_true]; exact Bool.false_ne_true))) ?_ | with_reducible refine w_pos (by (first | rfl | decide | (simp only [Option.map_some, os_canon]; done) | exact os_canon | (rw [Option.map_some]; decide +kernel))) ?_ | lk)
  refine wpAny_load (Heap.get?_push_of_some _ (Heap.get?_push_of_some _ hC)) (wpAny_pure ?_)
  rw [e2]
  refine wpAny_pure (wpAny_pure ?_)
  show R _ _
  rw [Heap.size_push]
  exact hq
end
section
variable {prog' : Program} {w : World} {A : Around} {C fI : Addr} {R : Result → Shared → Prop} {h : Heap} {g : Array GenState} {d : Drawn} {t : Nat} {os : OsState}
theorem make_exc {v : Value} (Y : MakesE (model prog' w) h C fI) (hb : ∀ self, Looks (model prog' w) h (bindSpecial (.ref fI) self) (.ref fI, [self]))
    (hq : codeAny (model prog' w) (A.under (.builtin "type.__call__" ⟨[.ref C, v], []⟩)) (.call (.ref fI) ⟨[.ref (h.objs.size + 1), v], []⟩) (InitBack (h.objs.size + 1) R) ⟨(h.push tupNew).push (excNew C h.objs.size), g, d, t, os⟩) :
    codeAny (model prog' w) A (.call (.ref C) ⟨[v], []⟩) R ⟨h, g, d, t, os⟩ := by
  have Y' := Y
  obtain ⟨⟨oc, od, cd, sl, hC, e1, e2, e4⟩, made, base, self, osb, call, typ, init⟩ := Y
  refine codeAny_of_tree ?_
  show wpAny _ _ (callAny (.ref C) _) _ _ _
  refine nd_load hC ?_
  show wpAny _ _ (callAny.viaDunder (.ref C) _) _ _ _
  unfold callAny.viaDunder
  refine wpAny_bind (call.at ?_)
  dsimp only
  rw [tc_bind]
  refine wpAny_bind (wpAny_pure (wpAny_bind (wpAny_pure ?_)))
  refine wpAny_pure (a := Fin.again (.call (.builtin "type.__call__") ⟨[.ref C, v], []⟩)) (And.intro rfl ?_)
  refine codeAny_call_builtin_at (Code.quiet_builtin _ (by decide +kernel)) entry_typeCall (check_slot tc_kind tc_split typ (tc_args _ _ _) ?_)
  unfold Builtin.«type.__call__»
  have hm : Looks (model prog' w) h (mroOf (.ref C)) cd.mro := ((Looks.ld (part := none) hC).andThen .now).andThen .now
  repeat (first | simp only [e4, Bool.false_eq_true, if_false] | with_reducible refine wpAny_call ?_ | lk)
  refine osnew Y' ?_
  have k : ∀ b o, h.get? b = some o → ((h.push tupNew).push (excNew C h.objs.size)).get? b = some o := fun b o e => Heap.get?_push_of_some _ (Heap.get?_push_of_some _ e)
  have hx : ((h.push tupNew).push (excNew C h.objs.size)).get? (h.objs.size + 1) = some (excNew C h.objs.size) := by heap_get
  have t1 : Looks (model prog' w) ((h.push tupNew).push (excNew C h.objs.size)) (typeOf (.ref (h.objs.size + 1))) (.ref C) := (Looks.ld hx).andThen .now
  have s1 := self.keeps k
  have i1 := init.keeps k
  have b1 := (hb (.ref (h.objs.size + 1))).keeps k
  unfold isInstance callSpecial? specialOf
  repeat (first | with_reducible refine wpAny_call ?_ | lk)
  refine codeAny_mono hq fun r s' z => ?_
  rcases r with e | (v | _ | _ | _) <;> first | exact z | exact z.elim | skip
  obtain ⟨rfl, z⟩ := z
  exact wpAny_pure (wpAny_pure z)
end
end Mine
end
end
section
set_option maxRecDepth 100000
set_option maxHeartbeats 0
set_option linter.unusedVariables false
set_option linter.unusedSectionVars false
set_option autoImplicit false
set_option genSizeOf false
set_option genInjectivity false
noncomputable section
namespace Mine
open PySem PySem.W PyProof.Rows PySem.Calls Builtin Builtin.ObjectAttr Builtin.Getset_descriptor Builtin.BaseException
/-! its attributes are stored -/
noncomputable def mro92 : List Value := [.ref 92, .ref 72, .type "OSError", .type "Exception", .type "BaseException", .type "object"]
theorem e_cls (p : Params) : ∃ cd, clsIn (hd.heap_1 p) 92 = some cd ∧ cd.mro = mro92 ∧ cd.hasDict = true := ⟨_, rfl, rfl, rfl⟩
theorem e_refuse (self : Value) : refuseLoop self "__setattr__" mro92 = pure () := by
  unfold mro92
  rw [refuseLoop_ref, refuseLoop_ref]
  kernel_rfl
theorem e_object (p : Params) : mroIn (hd.heap_1 p) 92 (.type "object") = some true := by kernel_rfl
theorem e_bexc (p : Params) : mroIn (hd.heap_1 p) 92 (.type "BaseException") = some true := by kernel_rfl
theorem e_setattr (p : Params) : findIn (hd.heap_1 p) (.ref 92) "__setattr__" = some (some (.builtin "object.__setattr__")) := by kernel_rfl
theorem e_taker1 (p : Params) : takerIn (hd.heap_1 p) 92 "recipients" = some none := by kernel_rfl
theorem e_taker2 (p : Params) : takerIn (hd.heap_1 p) 92 "args" = some (some (.builtin "BaseException.args")) := by kernel_rfl
section
variable {prog' : Program} {w : World} {A : Around} {p : Params} {x : Addr} {s : Shared} {R : Result → Shared → Prop} {E : Value → Shared → Prop}
theorem osaE {ox : Obj} {od : Option Obj} {name : Str} {tk : Tok} {v : Value} {r : Option Value} (X : (hd.heap_1 p).In s.heap) (I : InstAt s.heap x ox 92 od) (ht : takerIn (hd.heap_1 p) 92 name = some r)
    (h : ∀ b, wpAny (model prog' w) A.in1 (match r with | some a => setByDescriptor a (.ref x) v | none => storeInOwnDict (.ref x) (.ref 92) (.str name tk) name v b)
      (fun fin s' => match fin with | .done f => R (.ok f) s' | .again c' => c'.quiet = true ∧ codeAny (model prog' w) A c' R s') (fun e s' => R (.error e) s') s) :
    codeAny (model prog' w) A (.call (.builtin "object.__setattr__") ⟨[.ref x, .str name tk, v], []⟩) R s := by
  have SF := PySem.F.store_object
  obtain ⟨cd, hc, hm0, _⟩ := e_cls p
  have sub : Looks (model prog' w) s.heap (isInstance (.ref x) (.type "object")) true := I.type.andThen (looks_mroIn X (e_object p))
  refine codeAny_call_builtin SF.slot.plain SF.entry (@check_slot (model prog' w) _ _ s "object.__setattr__" "object" "__setattr__" (.ref x) [.str name tk, v] [] _ SF.kind SF.split sub (SF.args (.ref x) (.str name tk) v) ?_)
  obtain ⟨attr, ha, hr⟩ := Option.bind_eq_some_iff.mp ht
  have hm : Looks (model prog' w) s.heap (mroOf (.ref 92)) cd.mro := (looks_clsIn X hc).andThen .now
  rw [hm0] at hm
  have L3 : Looks (model prog' w) s.heap (storeTaker? attr) r := by
    cases attr with
    | none => cases hr; exact .now
    | some a =>
      obtain ⟨b, hb, rfl⟩ := Option.map_eq_some_iff.mp hr
      refine (looks_takesIn X hb).andThen ?_
      cases b <;> exact .now
  rw [osa_eq, refuse_eq]
  refine wpAny_bind (wpAny_bind (I.type.here (wpAny_bind (hm.here ?_))))
  rw [e_refuse]
  exact wpAny_pure (wpAny_bind (I.type.here (wpAny_bind ((looks_findIn X ha).here (wpAny_bind (L3.here (h _)))))))
theorem setE {ox : Obj} {od : Option Obj} {name : Str} {v : Value} {Q : Unit → Shared → Prop} (X : (hd.heap_1 p).In s.heap) (I : InstAt s.heap x ox 92 od)
    (h : codeAny (model prog' w) A (.call (.builtin "object.__setattr__") ⟨[.ref x, .str name s.toks, v], []⟩) (fun r s' => match r with | .ok (.ret _) => Q () s' | .ok _ => False | .error e => E e s') { s with toks := s.toks + 1 }) :
    wpAny (model prog' w) A (setAttr (.ref x) name v) Q E s := set_plain X I (e_setattr p) h
/-- the first one, that makes the dict -/
theorem excStore1 {ox : Obj} {vs : Array Value} {v : Value} {Q : Unit → Shared → Prop} (X : (hd.heap_1 p).In s.heap) (hx : s.heap.get? x = some ox) (hc : ox.cls = .ref 92) (hd' : ox.data = .fields vs) (hdn : ox.dict = none)
    (h : ∀ h' dx tk, s.heap.get? dx = none → dx ≠ x → h'.get? x = some { ox with dict := some dx } → h'.Ns1 dx (fun y => if y = "recipients" then some v else none) → (∀ b o, b ≠ x → s.heap.get? b = some o → h'.get? b = some o) → Q () { s with heap := h', toks := tk }) :
    wpAny (model prog' w) A (setAttr (.ref x) "recipients" v) Q E s := by
  have I : InstAt s.heap x ox 92 none := ⟨hx, hc, by unfold notCls; rw [hd'], by rw [hdn]; trivial⟩
  obtain ⟨hh, g, d, t, os⟩ := s
  refine setE X I (osaE (s := ⟨hh, g, d, t + 1, os⟩) X I (e_taker1 p) fun b => ?_)
  obtain ⟨cd, hcd, _, hhd⟩ := e_cls p
  obtain ⟨oc, odi, oda, osl⟩ := ox
  dsimp only at hc hdn hx X hd'
  subst hc hdn hd'
  refine wpAny_bind (wpAny_pure (wpAny_bind (wpAny_bind (wpAny_loadPart hx (wpAny_bind ((looks_clsIn X hcd).here ?_))))))
  rw [hhd]
  have hxs : x ≠ hh.objs.size := Nat.ne_of_lt (Heap.lt_size hx)
  have hx₁ : (hh.push { cls := .type "dict", data := .dict #[] }).get? x = some { cls := .ref 92, data := .fields vs, slots := osl } := Heap.get?_push_of_some _ hx
  show wpAny _ _ (do
      let d ← alloc { cls := Value.type "dict", data := Data.dict #[] }
      update x fun o => { cls := o.cls, dict := some d, data := o.data, slots := o.slots }
      dictMade (.ref 92) x d) _ _ _
  refine wpAny_bind (wpAny_alloc' ?_)
  refine wpAny_bind (wpAny_update' hx₁ ?_)
  refine wpAny_pure (a := some hh.objs.size) ?_
  have hx₂ : ((hh.push { cls := .type "dict", data := .dict #[] }).update x fun o => { cls := o.cls, dict := some hh.objs.size, data := o.data, slots := o.slots }).get? x
      = some { cls := .ref 92, dict := some hh.objs.size, data := .fields vs, slots := osl } := Heap.get?_update_self _ hx₁ rfl
  have hgd : ((hh.push { cls := .type "dict", data := .dict #[] }).update x fun o => { cls := o.cls, dict := some hh.objs.size, data := o.data, slots := o.slots }).get? hh.objs.size
      = some { cls := .type "dict", data := .dict #[] } := (Heap.get?_update_ne _ _ _ _ hxs.symm).trans (Heap.get?_push_at rfl rfl)
  have hnd : ((hh.push { cls := .type "dict", data := .dict #[] }).update x fun o => { cls := o.cls, dict := some hh.objs.size, data := o.data, slots := o.slots }).Ns hh.objs.size (fun _ => none) :=
    ⟨_, #[], _, hgd, rfl, fun e he => absurd he (by simp), fun _ => rfl⟩
  show wpAny _ _ (storeInDict hh.objs.size (.str "recipients" t) "recipients" v) _ _ _
  unfold storeInDict newKeyGuard
  refine wpAny_bind (wpAny_pure (wpAny_bind (wpAny_nsSet1 (Heap.Ns1.of_empty hnd) fun h' hn' hs => ?_)))
  obtain ⟨oD, esD, epD, hoD, hdD, hcD⟩ := hn'.count (Within.cons "recipients" v Within.nil)
  refine wpAny_bind (wpAny_lookBehind hoD (by rw [hdD]; exact pastItsLine_dict (Nat.le_trans hcD (by rw [List.length_cons, List.length_nil, sizeLine_eq]; omega))) ?_)
  refine wpAny_pure ?_
  refine h h' hh.objs.size _ (fresh_size _) hxs.symm ((hs.2 x hxs).trans hx₂) hn' fun b o hb q => ?_
  exact (hs.2 b (Nat.ne_of_lt (Heap.lt_size q))).trans ((Heap.get?_update_ne _ _ _ _ hb).trans (Heap.get?_push_of_some _ q))
/-- the second one, args -/
theorem bexc_set_entry : entryFor table "BaseException.args#set" = some Builtin.«BaseException.args#set» := entryFor_of_tree (by kernel_rfl)
theorem gs_set_entry : entryFor table "getset_descriptor.__set__" = some Builtin.«getset_descriptor.__set__» := entryFor_of_tree (by kernel_rfl)
theorem gs_set_args (a b c : Value) : argsOk "getset_descriptor.__set__" ⟨[a, b, c], []⟩ := by unfold argsOk; kernel_rfl
theorem bexc_nc : descrNameAndClass (.builtin "BaseException.args") = pure (("args" : Str), Value.type "BaseException") := by kernel_rfl
theorem excStore2 {ox : Obj} {vs : Array Value} {t0 tp : Addr} {items : Array Value} {Q : Unit → Shared → Prop} (X : (hd.heap_1 p).In s.heap) (hx : s.heap.get? x = some ox) (hc : ox.cls = .ref 92) (hd' : ox.data = .fields vs)
    (hdd : ∀ dx, ox.dict = some dx → ∃ o, s.heap.get? dx = some o) (h0 : vs[0]? = some (.ref t0)) (ht : s.heap.IsTuple tp items)
    (h : ∀ tk, Q () { s with heap := s.heap.update x (Obj.mapFields (·.setIfInBounds 0 (.ref tp))), toks := tk }) :
    wpAny (model prog' w) A (setAttr (.ref x) "args" (.ref tp)) Q E s := by
  obtain ⟨od, I⟩ : ∃ od, InstAt s.heap x ox 92 od := by
    cases q : ox.dict with
    | none => exact ⟨none, hx, hc, by unfold notCls; rw [hd'], by rw [q]; trivial⟩
    | some dx =>
      obtain ⟨o, ho⟩ := hdd dx q
      exact ⟨some o, hx, hc, by unfold notCls; rw [hd'], by rw [q]; exact ho⟩
  obtain ⟨hh, g, d, t, os⟩ := s
  refine setE X I (osaE (s := ⟨hh, g, d, t + 1, os⟩) X I (e_taker2 p) fun b => ?_)
  have S := PySem.F.slot_gs_set
  refine wpAny_bind (wpAny_rule (wpAny_bind (wpAny_holding (wpAny_bind (wpAny_bind ((Looks.of_pure PySem.F.typeOf_bexc_args).here ((Looks.of_pure S.lookup).here (wpAny_holding ?_))))))))
  rw [S.bind]
  refine wpAny_bind (wpAny_pure (wpAny_bind (wpAny_call ?_)))
  have hsub : Looks (model prog' w) hh (isInstance (.ref x) (.type "BaseException")) true := I.type.andThen (looks_mroIn X (e_bexc p))
  refine codeAny_call_builtin S.plain gs_set_entry (S.check _ _ _ _ _ _ _ _ (show (⟨hh, g, d, t + 1, os⟩ : Shared).TypeIs (.builtin "BaseException.args") "getset_descriptor" from PySem.F.typeOf_bexc_args) (gs_set_args _ _ _) ?_)
  show wpAny _ _ (Builtin.«getset_descriptor.__set__» ⟨[.builtin "BaseException.args", .ref x, .ref tp], []⟩) _ _ _
  unfold Builtin.«getset_descriptor.__set__» descrSet descrStoreThrough descrCheckInstance
  dsimp only
  rw [bexc_nc]
  repeat (first | simp only [bne_self_eq_false, Bool.false_eq_true, if_false, Bool.not_true] | lk)
  have e1 : "BaseException.args" ++ "#set" = "BaseException.args#set" := by decide +kernel
  rw [e1]
  refine ⟨Code.quiet_builtin _ (by decide +kernel), codeAny_builtin bexc_set_entry ?_⟩
  show wpAny _ _ (Builtin.«BaseException.args#set» ⟨[.ref x, .ref tp], []⟩) _ _ _
  unfold Builtin.«BaseException.args#set» bexcPut
  refine wpAny_bind (call_tuple_same ht ?_)
  refine wpAny_bind (wpAny_bind (wpAny_field hx hd' h0 (wpAny_bind (wpAny_setField hx hd' (Array.getElem?_eq_some_iff.mp h0).1 ?_))))
  refine wpAny_letGo (wpAny_pure ?_)
  exact wpAny_pure (wpAny_pure (h _))
/-- one is read -/
theorem e_ga (p : Params) : findIn (hd.heap_1 p) (.ref 92) "__getattribute__" = some (some (.builtin "BaseException.__getattribute__")) := by kernel_rfl
theorem e_gattr (p : Params) : findIn (hd.heap_1 p) (.ref 92) "__getattr__" = some none := by kernel_rfl
theorem e_rec (p : Params) : findIn (hd.heap_1 p) (.ref 92) "recipients" = some none := by kernel_rfl
theorem lookIn_ns {h : Heap} {dx : Addr} {m : Str → Option Value} (hn : h.Ns1 dx m) (name : Str) : ∃ o, h.get? dx = some o ∧ lookIn name o = some (m name) := by
  obtain ⟨o, es, ep, ho, hdt, hk, hu, hm⟩ := hn
  refine ⟨o, ho, ?_⟩
  unfold lookIn
  rw [hdt]
  dsimp only
  have e1 := hm name
  unfold nsFind findBy at e1
  rw [← Array.find?_toList] at e1
  split
  · rename_i e he
    rw [he] at e1
    exact congrArg some e1
  · rename_i he
    rw [he] at e1
    have hr : es.toList.any (·.refKey) = false := by
      rw [List.any_eq_false]
      intro e hm'
      obtain ⟨n, t, hk'⟩ := hk e (Array.mem_toList_iff.mp hm')
      simp [DictEntry.refKey, hk']
    rw [hr]
    exact congrArg some e1
theorem bexc_ga_kind : builtinKind "BaseException.__getattribute__" = some .slot := by decide +kernel
theorem bexc_ga_split : splitId "BaseException.__getattribute__" = some ("BaseException", "__getattribute__") := by decide +kernel
theorem ga_slotArgs (x y : Value) : slotArgs "__getattribute__" 1 ⟨[x, y], []⟩ = pure (x, [y]) := by kernel_rfl
theorem ga_attrName (n : Str) (t : Tok) : attrName (.str n t) = pure n := by kernel_rfl
theorem excRead {ox : Obj} {vs : Array Value} {dx : Addr} {m : Str → Option Value} {v : Value} {expr : Bool} {Q : Value → Shared → Prop} (X : (hd.heap_1 p).In s.heap) (hx : s.heap.get? x = some ox) (hc : ox.cls = .ref 92) (hd' : ox.data = .fields vs)
    (hdd : ox.dict = some dx) (hn : s.heap.Ns1 dx m) (hm : m "recipients" = some v) (hh : handedIn v = true) (h : ∀ tk, Q v { s with toks := tk }) : wpAny (model prog' w) A (getAttr (.ref x) "recipients" expr) Q E s := by
  obtain ⟨o, ho, hl⟩ := lookIn_ns hn "recipients"
  rw [hm] at hl
  have I : InstAt s.heap x ox 92 (some o) := ⟨hx, hc, by unfold notCls; rw [hd'], by rw [hdd]; exact ho⟩
  obtain ⟨cd, hcd, _, hhd⟩ := e_cls p
  have hf : findObj (hd.heap_1 p) 92 (some o) "recipients" = some (.value v) := by
    unfold findObj
    rw [hcd, e_rec]
    show (W.ownOf cd (some o) "recipients").bind _ = _
    unfold W.ownOf
    rw [hhd, if_pos rfl]
    dsimp only
    rw [hl]
    rfl
  obtain ⟨hp, g, d, t, os⟩ := s
  have L0 := I.type (M := model prog' w)
  have L1 := looks_findIn (M := model prog' w) X (e_ga p)
  have L2 := looks_find (M := model prog' w) X I hf
  have L3 := looks_findIn (M := model prog' w) X (e_gattr p)
  have b3 := PySem.F.entry_bexc_ga
  have hsub : Looks (model prog' w) hp (isInstance (.ref x) (.type "BaseException")) true := L0.andThen (looks_mroIn X (e_bexc p))
  unfold getAttr getAttrBy
  refine wpAny_bind (wpAny_mkText (wpAny_holding (wpAny_bind (L0.at (wpAny_bind (L1.at ?_))))))
  repeat lk
  refine wpAny_attempt ?_
  unfold callGetattribute
  have hx0 : (expr && onTheHeap (Value.builtin "BaseException.__getattribute__")) = false := by cases expr <;> rfl
  rw [hx0, if_neg (by decide)]
  have S := PySem.F.excAttr_ValueError.ga
  unfold boundAndCalled
  rw [S.bind]
  refine wpAny_holding (wpAny_bind (wpAny_pure ?_))
  show wpAny _ _ (call (.builtin "BaseException.__getattribute__") [.ref x, .str "recipients" t] []) _ _ _
  refine wpAny_call ?_
  refine codeAny_call_builtin S.plain b3 (@check_slot (model prog' w) _ _ ⟨hp, g, d, t + 1, os⟩ "BaseException.__getattribute__" "BaseException" "__getattribute__" (.ref x) [.str "recipients" t] [] _ bexc_ga_kind bexc_ga_split hsub (PySem.F.args_bexc_ga _ _) ?_)
  unfold Builtin.«object.__getattribute__»
  refine wpAny_bind (wpAny_of_eq (ga_slotArgs (.ref x) _) ?_)
  dsimp only
  refine wpAny_bind (wpAny_of_eq (ga_attrName _ _) (wpAny_bind (L0.at (wpAny_bind (L2.at ?_)))))
  refine wpAny_pure ?_
  show wpAny _ _ (handedOut v) _ _ _
  rw [handedOut_of hh]
  exact wpAny_pure (h _)
end
end Mine
end
end
section
set_option maxRecDepth 100000
set_option maxHeartbeats 0
set_option linter.unusedVariables false
set_option linter.unusedSectionVars false
set_option autoImplicit false
set_option genSizeOf false
set_option genInjectivity false
noncomputable section
namespace Mine
open PySem PySem.W PyProof.Rows
/-! SMTPRecipientsRefused(..) made and raised -/
/-- an exception that bears the value -/
structure ExAt (h : Heap) (e dx : Addr) (v : Value) : Prop where
  o : ∃ t, h.get? e = some { cls := .ref 92, dict := some dx, data := .fields #[.ref t, .none, .none, .none, .bool false, .none, rawInt 0, rawInt 0, rawInt 0, rawInt 0, rawInt (-1)] }
  ne : dx ≠ e
  ns : ∃ m, h.Ns1 dx m ∧ m "recipients" = some v
noncomputable def defX : DefRec := recOf ((bodyOf ((vw.main.body).getD 7 (.Pass ⟨0, 0, 0, 0⟩))).getD 0 (.Pass ⟨0, 0, 0, 0⟩))
theorem defX_cell : ∀ x ∈ defX.scope.names, x.2 ≠ .cell := by decide +kernel
theorem defX_co : defX.scope.isCoroutine = false := by decide +kernel
theorem defX_gen : defX.scope.isGenerator = false := by decide +kernel
theorem defX_kind : defX.scope.kind = .function := by decide +kernel
theorem defX_name : defX.name = Str.ofString "__init__" := by decide +kernel
section
variable {C : Cx} {n : Nat} {sc : Sc}
theorem defX_fn (P : Pg C) : ∃ o pm code doc, C.hb.get? 89 = some o ∧ o.cls = .type "function" ∧ o.data = .func (methDef defX.name (Str.ofString "SMTPRecipientsRefused.__init__") defX.params defX.body defX.scope pm code doc) ∧ C.hb.CodeRec code (Str.ofString "SMTPRecipientsRefused.__init__") :=
  ⟨_, _, _, _, P.frag 89 _ rfl, rfl, rfl, 88, _, _, _, rfl, P.frag 88 _ rfl, rfl, rfl⟩
theorem localName {A : Around} {E : Value → Shared → Prop} {s : Shared} {env : Env} {x : Str} {pos : Pos} {v : Value} {m : Str → Option Value} {Q : Value → Shared → Prop} (hf : env.scope.kind = .function) (hk : env.kindOf x = some .local) (hn : s.heap.Ns env.locals m) (hm : m x = some v)
    (hd : (x == ("__debug__" : Str)) = false) (h : Q v s) : wpAny (model prog C.w) A (eval (.Name x pos) env) Q E s := wpAny_Name (wpAny_loadName_local hf hk hn hm h) hd
theorem excInit (O : Ok C) (P : Pg C) {A : Around} {s : Shared} {RR : Result → Shared → Prop} {e t0 : Addr} {v : Value} (hb : ∀ b o, C.hb.get? b = some o → s.heap.get? b = some o) (hroom : A.depth < recursionLimit) (he : s.heap.get? e = some (excNew 92 t0)) (heb : C.hb.get? e = none)
    (K : ∀ h' dx tk, (∀ b o, b ≠ e → s.heap.get? b = some o → h'.get? b = some o) → s.heap.get? dx = none → ExAt h' e dx v → RR (.ok (.ret .none)) { s with heap := h', toks := tk }) :
    codeAny (model prog C.w) A (.call (.ref 89) ⟨[.ref e, v], []⟩) RR s := by
  obtain ⟨ob, pm, code, doc, ho, hoc, hdt, hcr⟩ := defX_fn P
  refine codeAny_call_def hroom (hb _ _ ho) hdt (O.nolimit.keeps hb) (hcr.keeps hb) rfl (binds := [(Str.ofString "self", .ref e), (Str.ofString "recipients", v)]) (BindsTo.of_eq (by kernel_rfl)) defX_cell (fun x hx => ?_) (fun h₀ hns hext => ?_) defX_co defX_gen defX_kind
  · simp only [List.mem_cons, List.not_mem_nil, or_false] at hx
    rcases hx with rfl | rfl
    · show defX.scope.names.lookup (Str.ofString "self") = some .local
      decide +kernel
    · show defX.scope.names.lookup (Str.ofString "recipients") = some .local
      decide +kernel
  have fresh : s.heap.get? s.heap.objs.size = none := fresh_size _
  generalize hE : callEnv (methDef defX.name (Str.ofString "SMTPRecipientsRefused.__init__") defX.params defX.body defX.scope pm code doc) s.heap.objs.size 89 = env
  have ef : env.scope.kind = .function := by rw [← hE]; show defX.scope.kind = .function; decide +kernel
  have k1 : env.kindOf (Str.ofString "self") = some .local := by rw [← hE]; show defX.scope.names.lookup (Str.ofString "self") = some .local; decide +kernel
  have k2 : env.kindOf (Str.ofString "recipients") = some .local := by rw [← hE]; show defX.scope.names.lookup (Str.ofString "recipients") = some .local; decide +kernel
  have el : env.locals = s.heap.objs.size := by rw [← hE]; rfl
  have X0 : (hd.heap_1 C.w.params).In h₀ := P.frag.keeps fun b o q => hext _ _ (hb b o q)
  have he0 := hext _ _ he
  have hne : e ≠ s.heap.objs.size := Nat.ne_of_lt (Heap.lt_size he)
  have hns' : h₀.Ns env.locals (fun x => [(Str.ofString "self", Value.ref e), (Str.ofString "recipients", v)].reverse.lookup x) := by rw [el]; exact hns
  refine wpAny_execs_cons ?_
  refine plainObj_wpAny_Assign_Attribute (localName ef k2 hns' (by rfl) (by decide +kernel) (localName ef k1 hns' (by rfl) (by decide +kernel) ?_)) (by rfl)
  refine excStore1 (p := C.w.params) X0 he0 rfl rfl rfl fun h1 dx tk1 q1 q2 q3 q4 q5 => ?_
  have ns1 := hns'
  replace ns1 : h1.Ns env.locals (fun x => [(Str.ofString "self", Value.ref e), (Str.ofString "recipients", v)].reverse.lookup x) := by
    obtain ⟨o, es, ep, e1, r⟩ := hns'
    exact ⟨o, es, ep, q5 _ _ (by rw [el]; exact hne.symm) e1, r⟩
  refine wpAny_execs_cons ?_
  refine plainObj_wpAny_Assign_Attribute (wpAny_Tuple (wpAny_items_cons (localName ef k2 ns1 (by rfl) (by decide +kernel) (wpAny_items_nil ⟨by rw [line_is]; show 1 ≤ 16777216; omega, ?_⟩)) (by rfl))) (by rfl)
  have ns2 := ns1.push { cls := .type "tuple", data := .seq #[v] }
  refine localName ef k1 ns2 (by rfl) (by decide +kernel) ?_
  have he2 := Heap.get?_push_of_some (h := h1) { cls := .type "tuple", data := .seq #[v] } q3
  refine excStore2 (p := C.w.params) (X := fun b o q => ?_) he2 rfl rfl (fun d' hd' => ?_) rfl ⟨_, Heap.get?_push_size h1 rfl, rfl, 0, rfl⟩ fun tk2 => ?_
  · exact Heap.get?_push_of_some _ (q5 _ _ (fun z => by have := P.frag b o q; rw [z, heb] at this; cases this) (X0 b o q))
  · cases hd'
    obtain ⟨o, es, ep, e1, _⟩ := q4
    exact ⟨o, Heap.get?_push_of_some _ e1⟩
  refine wpAny_execs_nil ?_
  have hpe : h1.objs.size ≠ e := Nat.ne_of_gt (Heap.lt_size q3)
  refine K _ dx _ (fun b o hbe q => ?_) ?_ ⟨⟨h1.objs.size, Heap.get?_update_self _ he2 rfl⟩, q2, (fun y => if y = "recipients" then some v else none), ?_, if_pos rfl⟩
  · rw [Heap.get?_update_other _ _ (Ne.symm hbe)]
    exact Heap.get?_push_of_some _ (q5 b o hbe (hext b o q))
  · cases q : s.heap.get? dx with
    | none => rfl
    | some o => rw [hext _ _ q] at q1; cases q1
  · refine q4.at fun o q => ?_
    rw [Heap.get?_update_other _ _ (Ne.symm q2)]
    exact Heap.get?_push_of_some _ q
theorem excCall (O : Ok C) (P : Pg C) {A : Around} {E : Value → Shared → Prop} {s : Shared} {v : Value} {Q : Value → Shared → Prop} (hb : ∀ b o, C.hb.get? b = some o → s.heap.get? b = some o) (hroom : A.depth + 1 < recursionLimit)
    (K : ∀ h' e dx tk, (∀ b o, s.heap.get? b = some o → h'.get? b = some o) → s.heap.get? e = none → s.heap.get? dx = none → ExAt h' e dx v → Q (.ref e) { s with heap := h', toks := tk }) :
    wpAny (model prog C.w) A (call (.ref 92) [v]) Q E s := by
  obtain ⟨h, g, d, t, os⟩ := s
  have X : (hd.heap_1 C.w.params).In h := P.frag.keeps hb
  have k : ∀ b o, h.get? b = some o → ((h.push tupNew).push (excNew 92 h.objs.size)).get? b = some o := fun b o e => Heap.get?_push_of_some _ (Heap.get?_push_of_some _ e)
  have hx : ((h.push tupNew).push (excNew 92 h.objs.size)).get? (h.objs.size + 1) = some (excNew 92 h.objs.size) := by heap_get
  have nx : h.get? (h.objs.size + 1) = none := Heap.get?_none_of_le (Nat.le_succ _)
  refine wpAny_call (make_exc (makesE_of X) (fun self => bind_fn X self (e_fn _)) ?_)
  refine excInit O P (fun b o e => k b o (hb b o e)) hroom hx (by
    cases q : C.hb.get? (h.objs.size + 1) with
    | none => rfl
    | some o => have := hb _ _ q; rw [nx] at this; cases this) fun h' dx tk q1 q2 q3 => ⟨rfl, ?_⟩
  refine K h' _ dx tk (fun b o e => q1 b o (fun z => by rw [z, nx] at e; cases e) (k b o e)) nx ?_ q3
  cases q : h.get? dx with
  | none => rfl
  | some o => have := k _ _ q; rw [q2] at this; cases this
theorem raiseE {A : Around} {E : Value → Shared → Prop} {s : Shared} {env : Env} {x : Sem Value} {Q : Flow → Shared → Prop} {p : Params} {prog' : Program} {w : World} (hh : A.handled = none)
    (h : wpAny (model prog' w) A x (fun v s₁ => ∃ e oe vs, v = .ref e ∧ (hd.heap_1 p).In s₁.heap ∧ s₁.heap.get? e = some oe ∧ oe.cls = .ref 92 ∧ oe.data = .fields vs ∧ vs[1]? = some .none ∧ E (.ref e) s₁) E s) :
    wpAny (model prog' w) A (raiseStmt env (some x) none) Q E s := by
  unfold raiseStmt
  refine wpAny_bind (wpAny_mono h (fun v s₁ h₁ => ?_) fun _ _ x => x)
  obtain ⟨e, oe, vs, rfl, X, he, hc, hd, h1, hE⟩ := h₁
  obtain ⟨hp, g, d, tk, os⟩ := s₁
  obtain ⟨oc, odi, oda, osl⟩ := oe
  dsimp only at hc hd he X
  subst hc hd
  have L0 : Looks (model prog' w) hp (typeOf (.ref e)) (.ref 92) := (Looks.ld he).andThen .now
  have L1 : Looks (model prog' w) hp (isInstance (.ref e) (.type "BaseException")) true := L0.andThen (looks_mroIn X (e_bexc p))
  have L2 : Looks (model prog' w) hp (typeOf (.ref 92)) (.type "type") := looks_typeIn X (show typeIn (hd.heap_1 p) (.ref 92) = some (.type "type") from rfl)
  have L3 : Looks (model prog' w) hp (isType (.ref e)) false := (Looks.ld he).andThen .now
  have L4 : Looks (model prog' w) hp (isExcClass (.ref e)) false := by
    unfold isExcClass
    exact L3.andThen .now
  have L5 : Looks (model prog' w) hp (excFromValue (.ref e) "exceptions must derive from BaseException") (.ref e) := by
    unfold excFromValue
    exact L4.andThen (L1.andThen .now)
  have L6 : Looks (model prog' w) hp (raisedInstance (.ref e)) (.ref e) := by
    unfold raisedInstance
    exact L0.andThen (L2.andThen .now)
  refine wpAny_bind (wpAny_pure (wpAny_bind (wpAny_holding (L5.at ?_))))
  refine wpAny_bind (L3.at ?_)
  refine wpAny_bind (L6.at ?_)
  refine wpAny_bind ?_
  unfold setFlight
  refine wpAny_bind (wpAny_field he rfl h1 ?_)
  rw [if_neg (by decide)]
  exact wpAny_pure (wpAny_raiseNew_none hh hE)
end
end Mine
end
end
section
set_option maxRecDepth 100000
set_option maxHeartbeats 0
set_option linter.unusedVariables false
set_option linter.unusedSectionVars false
set_option autoImplicit false
set_option genSizeOf false
set_option genInjectivity false
noncomputable section
namespace Mine
open PySem PySem.W PyProof.Rows
section
variable {C : Cx} {n : Nat} {sc : Sc}
/-! frames below -/
noncomputable def frA (fr : List Env) : List Addr := fr.filterMap (·.frame)
noncomputable def FrOk (C : Cx) (fr : List Env) (as : List Addr) (h : Heap) : Prop := ∀ env ∈ fr, env.scope.kind ≠ .module ∧ ∃ L o, env.frame = some L ∧ C.hb.get? L = none ∧ L ∉ as ∧ h.get? L = some o ∧ ∀ vs, o.data ≠ .fields vs
theorem frA_mem {fr : List Env} {a : Addr} (h : a ∈ frA fr) : ∃ env ∈ fr, env.frame = some a := List.mem_filterMap.mp h
theorem FrOk.at {fr : List Env} {as : List Addr} {h : Heap} (F : FrOk C fr as h) {a : Addr} (ha : a ∈ frA fr) : C.hb.get? a = none ∧ a ∉ as ∧ ∃ o, h.get? a = some o ∧ ∀ vs, o.data ≠ .fields vs := by
  obtain ⟨env, he, hf⟩ := frA_mem ha
  obtain ⟨_, L, o, e1, e2, e3, e4, e5⟩ := F env he
  rw [hf] at e1
  cases e1
  exact ⟨e2, e3, o, e4, e5⟩
theorem FrOk.fun {as : List Addr} {h : Heap} {D : List Addr} : ∀ {fr : List Env}, FrOk C fr as h → (∀ a ∈ frA fr, a ∈ D) → h.FunFrames (hideAll h D) fr
  | [], _, _ => trivial
  | env :: r, F, hD => by
    obtain ⟨hk, L, o, e1, e2, e3, e4, e5⟩ := F env (.head _)
    refine ⟨hk, ⟨L, o, e1, hideAll_none _ (hD L (List.mem_filterMap.mpr ⟨env, .head _, e1⟩)), e4, e5⟩, FrOk.fun (fun x hx => F x (.tail _ hx)) fun a ha => hD a ?_⟩
    obtain ⟨x, hx, hf⟩ := frA_mem ha
    exact List.mem_filterMap.mpr ⟨x, .tail _ hx, hf⟩
theorem RelS.hide {hk hk' h : Heap} {as D : List Addr} {os : Store} (R : RelS C hk as os h) (hD : ∀ d ∈ D, d ∉ as) (hb : ∀ b o, C.hb.get? b = some o → hk'.get? b = some o) (hkk : ∀ b o, hk'.get? b = some o → hk.get? b = some o ∧ b ∉ D) : RelS C hk' as os (hideAll h D) := by
  have k : ∀ a ∈ as, ∀ o, h.get? a = some o → (hideAll h D).get? a = some o := fun a ha o e => hideAll_get _ e fun q => hD a q ha
  refine ⟨hb, fun b o e => hideAll_get _ (R.keep b o (hkk b o e).1) (hkk b o e).2, fun a ha => ?_, R.nodup, R.size, fun a ha => let ⟨o, e⟩ := R.live a ha; ⟨o, k a ha o e⟩, fun i o e => ?_, fun i d i1 i2 i3 e => ?_⟩
  · cases q : hk'.get? a with
    | none => rfl
    | some o => have := (hkk a o q).1; rw [R.off a ha] at this; cases this
  · obtain ⟨a, ea, r⟩ := R.obj i o e
    exact ⟨a, ea, r.at fun ob q => k a (List.mem_of_getElem? ea) ob q⟩
  · exact (R.wht i d i1 i2 i3 e).at (List.prefix_refl _) (fun _ x _ => x) fun x j ej _ o q => k x (List.mem_of_getElem? ej) o q
theorem callWithE {prog' : Program} {w : World} {p : Params} {h₀ : Heap} {A : Around} {E : Value → Shared → Prop} {s : Shared} {env : Env} {pos : Pos} {e : Expr} {rest : List Expr} {Q : Value → Shared → Prop} (X : (hd.heap_1 p).In h₀)
    (h : wpAny (model prog' w) A (spliced (backTo pos (starEach (e :: rest) env))) (fun vs s₁ => (∀ b o, h₀.get? b = some o → s₁.heap.get? b = some o) ∧ wpAny (model prog' w) A (call (.ref 92) vs) Q E s₁) E s)
    (he : starEach (e :: rest) env = (false, eval e env) :: starEach rest env) (hplain : (backTo pos (starEach rest env)).any (·.1) = false) :
    wpAny (model prog' w) A (callWith pos (.ref 92) [] (backTo pos (starEach (e :: rest) env)) []) Q E s := by
  rw [he] at h ⊢
  have hst : ((backTo pos ((false, eval e env) :: starEach rest env)).any (fun x => x.fst) || ([] : List (Option Str × Sem Value)).any fun x => x.fst.isNone) = false := by
    show ((false || (backTo pos (starEach rest env)).any (·.1)) || false) = false
    rw [hplain]; rfl
  unfold callWith
  refine wpAny_bind (wpAny_holding (Calls.evalArgs_plain (wpAny_mono h (fun vs s₁ h₁ => ?_) fun _ _ x => x)))
  obtain ⟨hh, g, d, t, os⟩ := s₁
  have X1 : (hd.heap_1 p).In hh := X.keeps h₁.1
  have L0 : Looks (model prog' w) hh (typeOf (.ref 92)) (.type "type") := looks_typeIn X1 (show typeIn (hd.heap_1 p) (.ref 92) = some (.type "type") from rfl)
  have L1 : Looks (model prog' w) hh (specialOf (.ref 92) "__call__") (some (.builtin "type.__call__")) := looks_specialIn X1 (e_call p)
  obtain ⟨oc, od, cd, sl, ho, _⟩ := e_lookup p
  have hC := X1 _ _ ho
  refine wpAny_bind (wpAny_standAt ?_)
  show wpAny _ _ (keeperOf (.ref 92) >>= _) _ _ _
  unfold keeperOf
  repeat lk
  rw [if_pos (by rfl), hst]
  show wpAny _ _ (call (.ref 92) vs [] >>= fun r => do holding [r] point; pure r) _ _ _
  exact wpAny_bind (wpAny_mono h₁.2 (fun r s' hr => wpAny_bind (wpAny_holding (wpAny_point (wpAny_pure hr)))) fun _ _ x => x)
/-! _law_make -/
theorem s17a (O : Ok C) : RefS C n ⟨(defK 17).scope, true⟩ ((defK 17).body.headD (.Pass ⟨0, 0, 0, 0⟩)) b17f :=
  (RefS.for (RefI.val O (RefE.itemF (RefE.var (k := 5) (by decide +kernel)) (RefE.var (k := 26) (by decide +kernel)))) (.name _ _) (RefA.name ⟨by decide, .inl (by decide +kernel)⟩) (RefSs.cons (by exact (RefS.expr (RefE.meth (k := 3) oDpop_ok (RefE.var (k := 30) (by decide +kernel)) (RefL.cons (RefE.var (k := 13) (by decide +kernel)) RefL.nil) F.plainAttrs_dict F.slot_dict_pop F.type_dict_pop rfl) (by intro env h; unfold interactive; rw [h]; rfl))) RefSs.nil))
theorem mk17_is {args : List AV} {os os' : Store} {b : Option AV} (e : mk17 args os = some (b, os')) : ∃ a1 a2 a3 a4 s1 s2, args = [a1, a2, a3, a4] ∧ b17f ⟨zipL [26, 5, 30, 31] [a1, a2, a3, a4], os⟩ = some (.next, s1) ∧ t17 s1 = some (b.isSome, s2) ∧
    (∀ w, b = some w → os' = s2.os ∧ lk 30 s2.loc = some w) ∧ (b = none → ∃ s3, p17 s2 = some (.next, s3) ∧ os' = s3.os) := by
  refine on4_elim e fun a1 a2 a3 a4 ha e => ob_elim e fun fl s1 q1 e => isNext_elim e fun hf e => ob_elim e fun b' s2 q2 e9 => ?_
  subst ha hf
  refine bIf_elim e9 (fun hb e => o1_elim e fun w qw z => ?_) fun hb e => ob_elim e fun fl s3 q3 e => isNext_elim e fun hf z => ?_
  · cases z
    subst hb
    exact ⟨a1, a2, a3, a4, s1, s2, rfl, q1, q2, fun w' z => by cases z; exact ⟨rfl, qw⟩, fun z => by cases z⟩
  · cases z
    subst hb hf
    exact ⟨a1, a2, a3, a4, s1, s2, rfl, q1, q2, (fun w z => by cases z), fun _ => ⟨s3, q3, rfl⟩⟩
theorem make17 (O : Ok C) (P : Pg C) (P2 : Pg2 C) (B : Bn C) {Ad : Nat → Addr} (D : ∀ j ∈ fnIx, FnAt C (defK j) (Ad j)) {A : Around} {E : Value → Shared → Prop} {s : Shared} {hk : Heap} {as : List Addr} {os os' : Store} {args : List AV} {vals : List Value} {b : Option AV} {Q : Value → Shared → Prop} {fr : List Env}
    (R : Room A (n + 3)) (hfr : A.frames = some fr) (Fk : FrOk C fr as s.heap) (e : mk17 args os = some (b, os')) (X : RelS C hk as os s.heap) (hx : RVs C as args vals)
    (K0 : b = none → ∀ as' h' tk, as <+: as' → RelS C hk as' os' h' → Q .none { s with heap := h', toks := tk })
    (K1 : ∀ w, b = some w → ∀ as' base h' tk ex dx v m a0, as <+: as' → RV C as' w v → RelS C (hideAll hk (frA fr)) as' os' base → (∀ a ∈ frA fr, a ∉ as') → base.Ns1 dx m → m "recipients" = some v →
      Fly base fr ex (.ref 92) dx a0 .none h' → (∀ a ∈ frA fr, ∀ o, s.heap.get? a = some o → ∃ sl, h'.get? a = some { o with slots := sl }) → E (.ref ex) { s with heap := h', toks := tk }) :
    wpAny (model prog C.w) A (call (.ref (Ad 17)) vals) Q E s := by
  obtain ⟨a1, a2, a3, a4, s1, s2, rfl, q1, q2, q3, q4⟩ := mk17_is e
  obtain ⟨ob, pm, code, doc, ho, hdt, hcr⟩ := (D 17 (by decide)).fn
  have hlen : vals.length = [26, 5, 30, 31].length := hx.length
  refine wpAny_call (enter O rfl rfl rfl (s0 := (defK 17).scope) (body := (defK 17).body) rfl rfl (fun b o e => X.inBase e) ho hdt hcr (ks := [26, 5, 30, 31]) (by obtain ⟨v1, v2, v3, v4, rfl⟩ := len4 hlen; exact BindsTo.of_eq (by kernel_rfl)) (by decide +kernel) (by decide +kernel) (by decide +kernel) (by decide +kernel) (by decide +kernel) R fun env h₀ tk0 R' F eL eF _ fL hns hext => ?_)
  have fresh : s.heap.get? s.heap.objs.size = none := fresh_size _
  have eK : env.scope.kind ≠ .module := by rw [F.eqv]; decide +kernel
  have Y : Rel C (RelS.all as s.heap) as ⟨zipL [26, 5, 30, 31] [a1, a2, a3, a4], os⟩ (fmOf ⟨(defK 17).scope, true⟩ env) h₀ := fL ▸ frame_rel X hx (by decide) (by decide) hext hns
  refine wpAny_execs_cons ?_
  refine s17a O R' F q1 Y fun as2 h2 tk2 fl2 p2 Y2 hfl2 => ?_
  have hfl2 : fl2 = .next := hfl2
  subst hfl2
  refine wpAny_execs_cons ?_
  refine wpAny_If ?_
  refine (show RefB C (n + 2) ⟨(defK 17).scope, true⟩ _ t17 from (RefB.cmp oGe_ok (RefE.callB O (oLen_ok O) (RefL.cons (RefE.var (k := 30) (by decide +kernel)) RefL.nil) (.b "len") (by decide +kernel) (B.no _ (by decide +kernel)) rfl rfl (by decide)) (RefE.var (k := 31) (by decide +kernel)) rfl)) R' F q2 Y2 fun as3 h3 tk3 bb p3 Y3 hbb => ?_
  have hbb : bb = b.isSome := hbb
  subst hbb
  have p23 := p2.trans p3
  cases b with
  | none =>
    obtain ⟨s3, q5, rfl⟩ := q4 rfl
    refine wpAny_execs_nil ?_
    show wpAny _ _ (execs _ env) _ _ _
    refine wpAny_execs_cons ?_
    refine (show RefS C (n + 2) ⟨(defK 17).scope, true⟩ _ p17 from (RefS.put (RefE.tup (RefL.cons RefE.int (RefL.cons (RefE.str (by decide +kernel)) RefL.nil))) (RefE.var (k := 30) (by decide +kernel)) (RefE.var (k := 26) (by decide +kernel)))) R' F q5 Y3 fun as4 h4 tk4 fl4 p4 Y4 hfl4 => ?_
    have hfl4 : fl4 = .next := hfl4
    subst hfl4
    exact wpAny_execs_nil (K0 rfl as4 h4 tk4 (p23.trans p4) (X.back Y4.S))
  | some w =>
    obtain ⟨rfl, qw⟩ := q3 w rfl
    show wpAny _ _ (execs [.Raise (some (.Call (.Name (Str.ofString "SMTPRecipientsRefused") _) [.Name (nm 30) _] [] _)) none _] env) _ _ _
    refine wpAny_execs_cons ?_
    rw [arm_exec_Raise]
    refine wpAny_bind (wpAny_standAt ?_)
    refine raiseE (p := C.w.params) R'.handled ?_
    refine wpAny_bind ?_
    refine wpAny_Call_Name_kw (nameG O Y3 F (by decide +kernel) P2.rr (by decide) ?_)
    refine callWithE (p := C.w.params) P.frag (wpAny_items_cons ((show RefE C (n + 2) ⟨(defK 17).scope, true⟩ _ (cVar 30) from RefE.var (k := 30) (by decide +kernel)) R' F (by unfold cVar; rw [qw]) Y3 fun as4 h4 tk4 x p4 Y4 hx4 => wpAny_items_nil ⟨fun b o e => Y4.S.inBase e, ?_⟩) (by rfl)) (by rfl) (by rfl)
    have p24 := p23.trans p4
    refine excCall O P (fun b o e => Y4.S.inBase e) (by have := R'.depth; omega) fun h5 ex dx tk5 k1 n1 n2 Ex => ?_
    obtain ⟨tt, hex⟩ := Ex.o
    refine wpAny_bind (wpAny_standAt (wpAny_pure ⟨ex, _, _, rfl, P.frag.keeps fun b o e => k1 b o (Y4.S.inBase e), hex, rfl, rfl, rfl, ?_⟩))
    have hLm : (fmOf ⟨(defK 17).scope, true⟩ env).L = s.heap.objs.size := by rw [fL]
    have hall : ∀ b o, s.heap.get? b = some o → b ∉ as → h5.get? b = some o := fun b o e hb => k1 b o (Y4.S.keep b o (RelS.allGet e hb))
    have frAt : ∀ a ∈ frA fr, a ∉ as4 ∧ a ≠ s.heap.objs.size ∧ a ≠ ex ∧ ∃ o, s.heap.get? a = some o ∧ h5.get? a = some o ∧ ∀ vs, o.data ≠ .fields vs := by
      intro a ha
      obtain ⟨f1, f2, o, f3, f4⟩ := Fk.at ha
      refine ⟨fun q => ?_, fun q => ?_, fun q => ?_, o, f3, hall a o f3 f2, f4⟩
      · have := Y4.S.off a q; rw [RelS.allGet f3 f2] at this; cases this
      · rw [q, fresh] at f3; cases f3
      · have := Y4.S.keep _ _ (RelS.allGet f3 f2); rw [q, n1] at this; cases this
    obtain ⟨mL, nL, _⟩ := Y4.ns
    rw [hLm] at nL
    obtain ⟨oL, esL, epL, gL, dL, _⟩ := nL
    have gL5 := k1 _ _ gL
    have hD : ∀ d ∈ ex :: s.heap.objs.size :: frA fr, d ∉ as4 := by
      intro d hd
      rcases List.mem_cons.mp hd with rfl | hd
      · exact Y4.S.notIn n1
      rcases List.mem_cons.mp hd with rfl | hd
      · have := Y4.notL; rw [hLm] at this; exact this
      · exact (frAt d hd).1
    have Fk5 : FrOk C fr as4 h5 := fun ev hev => by
      obtain ⟨f0, L, o, f1, f2, f3, f4, f5⟩ := Fk ev hev
      obtain ⟨g1, _, _, o', g4, g5, g6⟩ := frAt L (List.mem_filterMap.mpr ⟨ev, hev, f1⟩)
      exact ⟨f0, L, o', f1, f2, g1, g5, g6⟩
    refine leaveD (base := hideAll h5 (ex :: s.heap.objs.size :: frA fr)) (dx := dx) (Around.frames_deeper hfr) ⟨eK, ⟨_, oL, eF, hideAll_none _ (.tail _ (.head _)), gL5, fun vs q => by rw [dL] at q; cases q⟩, Fk5.fun fun a ha => .tail _ (.tail _ ha)⟩ eF hex rfl (fun b o q => of_hideAll _ q) (hideAll_none _ (.head _)) rfl rfl rfl fun h6 G U => ?_
    obtain ⟨m, hm, hmv⟩ := Ex.ns
    refine K1 w rfl as4 _ h6 _ ex dx x m _ p24 hx4 ?_ (fun a ha => (frAt a ha).1) ?_ hmv ⟨G.stays, G.new, G.frames.2.2, G.tr⟩ fun a ha o q => ?_
    · refine (Y4.S.ext k1).hide hD (fun b o q => hideAll_get _ (X.base b o q) fun hm' => ?_) fun b o q => ?_
      · have := (Fk.at hm').1; rw [q] at this; cases this
      · have hkb := of_hideAll _ q
        have hnf : b ∉ frA fr := fun hm' => by rw [hideAll_none _ hm'] at q; cases q
        have hs := X.keep b o hkb
        have hna : b ∉ as := fun hm' => by rw [X.off b hm'] at hkb; cases hkb
        refine ⟨RelS.allGet hs hna, fun hm' => ?_⟩
        rcases List.mem_cons.mp hm' with rfl | hm'
        · have := Y4.S.keep _ _ (RelS.allGet hs hna); rw [n1] at this; cases this
        rcases List.mem_cons.mp hm' with rfl | hm'
        · rw [fresh] at hs; cases hs
        · exact hnf hm'
    · refine hm.at fun o q => hideAll_get _ q fun hm' => ?_
      rcases List.mem_cons.mp hm' with q' | hm'
      · exact Ex.ne q'
      rcases List.mem_cons.mp hm' with q' | hm'
      · rw [q', gL] at n2; cases n2
      · obtain ⟨_, _, _, o', g4, _, _⟩ := frAt dx hm'
        have := Y4.S.keep _ _ (RelS.allGet g4 (Fk.at hm').2.1); rw [n2] at this; cases this
    · obtain ⟨_, _, _, o', g4, g5, g6⟩ := frAt a ha
      rw [g4] at q
      cases q
      exact U a _ g5 g6
end
end Mine
end
end
section
set_option maxRecDepth 100000
set_option maxHeartbeats 0
set_option linter.unusedVariables false
set_option linter.unusedSectionVars false
set_option autoImplicit false
set_option genSizeOf false
set_option genInjectivity false
noncomputable section
namespace Mine
open PySem PySem.W PyProof.Rows
section
variable {C : Cx} {n : Nat} {sc : Sc}
/-! statements that may touch the slots of the frames below -/
noncomputable def Outer (dat : Addr → Data) (outer : List Env) (hk : Heap) (as : List Addr) (f : Fm) (h : Heap) : Prop := ∀ env ∈ outer, env.scope.kind ≠ .module ∧ ∃ L, env.frame = some L ∧ Apart hk h as f L ∧ ∃ o, h.get? L = some o ∧ o.data = dat L ∧ ∀ vs, o.data ≠ .fields vs
theorem Outer.mem {dat : Addr → Data} {outer : List Env} {hk h : Heap} {as : List Addr} {f : Fm} (O : Outer dat outer hk as f h) {a : Addr} (ha : a ∈ frA outer) : Apart hk h as f a ∧ ∃ o, h.get? a = some o ∧ o.data = dat a ∧ ∀ vs, o.data ≠ .fields vs := by
  obtain ⟨env, he, hf⟩ := frA_mem ha
  obtain ⟨_, L, e1, e2, e3⟩ := O env he
  rw [hf] at e1
  cases e1
  exact ⟨e2, e3⟩
namespace Rel
variable {hk : Heap} {as : List Addr} {st : St} {f : Fm} {h h' : Heap}
/-- all beside the store, the frame and some more -/
noncomputable def allD (D as : List Addr) (f : Fm) (h : Heap) : Heap := hideAll h (fa f ++ as ++ D)
theorem weaken {hk' : Heap} (R : Rel C hk' as st f h) (hb : ∀ b o, C.hb.get? b = some o → hk.get? b = some o) (hs : ∀ b o, hk.get? b = some o → hk'.get? b = some o) : Rel C hk as st f h := by
  have z : ∀ a, hk'.get? a = none → hk.get? a = none := fun a e => by
    cases q : hk.get? a with
    | none => rfl
    | some o => rw [hs _ _ q] at e; cases e
  exact ⟨R.S.weaken hb hs, z _ R.offL, R.notL, R.ns, R.cnot, R.cL, R.clive, fun ho x ca q => z _ (R.coff ho x ca q), R.apart⟩
theorem getD {D : List Addr} {b : Addr} {o : Obj} (e : h.get? b = some o) (h1 : b ∉ fa f) (h2 : b ∉ as) (h3 : b ∉ D) : (allD D as f h).get? b = some o := hideAll_get _ e fun q => by
  rcases List.mem_append.mp q with q | q
  · rcases List.mem_append.mp q with q | q
    · exact h1 q
    · exact h2 q
  · exact h3 q
theorem wideD (R : Rel C hk as st f h) (hn : (f.cl.map (·.1)).Nodup) {D : List Addr} (hD : ∀ d ∈ D, hk.get? d = none) : Rel C (allD D as f h) as st f h := by
  refine (R.wide hn).weaken (fun b o e => getD (R.S.inBase e) (R.notFa hn (R.S.base b o e)) (fun q => ?_) fun q => ?_) fun b o e => ?_
  · have := R.S.off b q; rw [R.S.base b o e] at this; cases this
  · have := hD b q; rw [R.S.base b o e] at this; cases this
  · have e1 := of_hideAll _ e
    have hnm : b ∉ fa f ++ as ++ D := fun q => by
      have := hideAll_none (h := h) _ q
      rw [show allD D as f h = hideAll h (fa f ++ as ++ D) from rfl, this] at e; cases e
    exact allGet e1 (fun q => hnm (List.mem_append_left _ (List.mem_append_right _ q))) fun q => hnm (List.mem_append_left _ (List.mem_append_left _ q))
theorem backD {as' : List Addr} {st' : St} (R : Rel C hk as st f h) (hn : (f.cl.map (·.1)).Nodup) {D : List Addr} (hD : ∀ d ∈ D, hk.get? d = none) (Y : Rel C (allD D as f h) as' st' f h') : Rel C hk as' st' f h' := by
  have hs : ∀ b o, hk.get? b = some o → (allD D as f h).get? b = some o := fun b o e => getD (R.S.keep b o e) (R.notFa hn e) (fun q => by rw [R.S.off b q] at e; cases e) fun q => by rw [hD b q] at e; cases e
  exact ⟨Y.S.weaken R.S.base hs, R.offL, Y.notL, Y.ns, Y.cnot, Y.cL, Y.clive, R.coff, Y.apart⟩
/-- what stands apart stands on -/
theorem apartD {as' : List Addr} {st' : St} (hn : (f.cl.map (·.1)).Nodup) {D : List Addr} {b : Addr} (P : Apart hk h as f b) (hb : b ∉ D) (Y : Rel C (allD D as f h) as' st' f h') : Apart hk h' as' f b ∧ ∀ o, h.get? b = some o → h'.get? b = some o := by
  have nfa : b ∉ fa f := fun q => by
    rcases fa_mem q with q | ⟨_, q⟩
    · exact P.nL q
    · obtain ⟨x, hx⟩ := lookup_nodup hn q
      exact P.nc x b hx rfl
  have kp : ∀ o, h.get? b = some o → h'.get? b = some o := fun o e => Y.S.keep b o (getD e nfa P.nas hb)
  obtain ⟨o, e⟩ := P.live
  refine ⟨⟨fun q => ?_, P.nL, P.nc, P.nk, ⟨o, kp o e⟩⟩, kp⟩
  have := Y.S.off b q
  rw [getD e nfa P.nas hb] at this; cases this
end Rel
theorem Outer.step {dat : Addr → Data} {outer : List Env} {hk h h' : Heap} {as as' : List Addr} {st' : St} {f : Fm} (Ou : Outer dat outer hk as f h) (hn : (f.cl.map (·.1)).Nodup) {D : List Addr} (hD : ∀ a ∈ frA outer, a ∉ D) (Y : Rel C (Rel.allD D as f h) as' st' f h') : Outer dat outer hk as' f h' := fun env he => by
  obtain ⟨e0, L, e1, e2, o, e3, e4⟩ := Ou env he
  obtain ⟨a1, a2⟩ := Rel.apartD hn e2 (hD L (List.mem_filterMap.mpr ⟨env, he, e1⟩)) Y
  exact ⟨e0, L, e1, a1, o, a2 o e3, e4⟩
theorem Outer.conv {dat : Addr → Data} {outer : List Env} {hk hk1 h h' : Heap} {as as' : List Addr} {f : Fm} (Ou : Outer dat outer hk as f h) (Y : Outer dat outer hk1 as' f h') : Outer dat outer hk as' f h' := fun env he => by
  obtain ⟨e0, L, e1, e2, _⟩ := Ou env he
  obtain ⟨_, L', g1, g2, g3⟩ := Y env he
  rw [e1] at g1
  cases g1
  exact ⟨e0, L, e1, ⟨g2.nas, g2.nL, g2.nc, e2.nk, g2.live⟩, g3⟩
theorem Outer.nk {dat : Addr → Data} {outer : List Env} {hk h : Heap} {as : List Addr} {f : Fm} (Ou : Outer dat outer hk as f h) : ∀ d ∈ frA outer, hk.get? d = none := fun d hd => (Ou.mem hd).1.nk
/-- widened, the frames too -/
theorem Outer.wide {dat : Addr → Data} {outer : List Env} {hk h : Heap} {as : List Addr} {f : Fm} (Ou : Outer dat outer hk as f h) : Outer dat outer (Rel.allD (frA outer) as f h) as f h := fun env he => by
  obtain ⟨e0, L, e1, e2, e3⟩ := Ou env he
  exact ⟨e0, L, e1, ⟨e2.nas, e2.nL, e2.nc, hideAll_none _ (List.mem_append_right _ (List.mem_filterMap.mpr ⟨env, he, e1⟩)), e2.live⟩, e3⟩
theorem itStep {hk h h' : Heap} {as as' : List Addr} {st' : St} {f : Fm} {ai : AI} {it : Addr} {fp D : List Addr} (hn : (f.cl.map (·.1)).Nodup) (I : ItAt C as ai it fp h) (P : ∀ b ∈ fp, Apart hk h as f b) (hD : ∀ b ∈ fp, b ∉ D) (p : as <+: as')
    (Y : Rel C (Rel.allD D as f h) as' st' f h') : ItAt C as' ai it fp h' ∧ ∀ b ∈ fp, Apart hk h' as' f b :=
  ⟨I.at p fun b hb => (Rel.apartD hn (P b hb) (hD b hb) Y).2, fun b hb => (Rel.apartD hn (P b hb) (hD b hb) Y).1⟩
noncomputable def RefX (C : Cx) (n : Nat) (sc : Sc) (t : Env → Sem Flow) (f : St → Option (AF × St)) : Prop :=
  ∀ ⦃A : Around⦄ ⦃env : Env⦄ ⦃E : Value → Shared → Prop⦄ ⦃s : Shared⦄ ⦃hk : Heap⦄ ⦃as : List Addr⦄ ⦃st st' : St⦄ ⦃v : AF⦄ ⦃Q : Flow → Shared → Prop⦄ ⦃dat : Addr → Data⦄ ⦃outer : List Env⦄,
    Room A n → Frm sc env → env.cells = [] → env.frame = some env.locals → A.frames = some (env :: outer) → f st = some (v, st') → Rel C hk as st (fmOf sc env) s.heap → Outer dat outer hk as (fmOf sc env) s.heap →
    (∀ as' h' tk val, as <+: as' → Rel C hk as' st' (fmOf sc env) h' → Outer dat outer hk as' (fmOf sc env) h' → FV C as' v val → Q val { s with heap := h', toks := tk }) → wpAny (model prog C.w) A (t env) Q E s
theorem allD_nil (as : List Addr) (f : Fm) (h : Heap) : Rel.allD [] as f h = Rel.all as f h := by
  unfold Rel.allD Rel.all
  rw [List.append_nil]
theorem RefX.of {x : Stmt} {f} (hf : RefS C n sc x f) : RefX C n sc (exec x) f := by
  intro A env E s hk as st st' v Q dat outer R F hc hfr hA e X Ou K
  refine hf R F e (X.wideD F.nod (D := []) (fun _ h => by cases h)) fun as' h' tk val p Y hv => ?_
  exact K as' h' tk val p (X.backD F.nod (fun _ h => by cases h) Y) (Ou.step F.nod (fun _ _ h => by cases h) Y) hv
theorem RefX.ofs {x : List Stmt} {f} (hf : RefSs C n sc x f) : RefX C n sc (execs x) f := by
  intro A env E s hk as st st' v Q dat outer R F hc hfr hA e X Ou K
  refine hf R F e (X.wideD F.nod (D := []) (fun _ h => by cases h)) fun as' h' tk val p Y hv => ?_
  exact K as' h' tk val p (X.backD F.nod (fun _ h => by cases h) Y) (Ou.step F.nod (fun _ _ h => by cases h) Y) hv
theorem RefX.cons {x : Stmt} {xs : List Stmt} {f g} (hf : RefX C n sc (exec x) f) (hg : RefX C n sc (execs xs) g) : RefX C n sc (execs (x :: xs)) (cThen f g) := by
  intro A env E s hk as st st' v Q dat outer R F hc hfr hA e X Ou K
  unfold cThen at e
  refine wpAny_execs_cons ?_
  cases q : f st with
  | none => rw [q] at e; cases e
  | some p =>
    obtain ⟨fl, s1⟩ := p
    rw [q] at e
    refine hf R F hc hfr hA q X Ou fun as1 h1 t1 x p1 X1 O1 hx => ?_
    cases fl with
    | next =>
      have hx' : x = .next := hx
      subst hx'
      exact hg R F hc hfr hA e X1 O1 fun as2 h2 t2 y p2 X2 O2 hy => K as2 h2 t2 y (p1.trans p2) X2 O2 hy
    | brk =>
      cases e
      have hx' : x = .brk := hx
      subst hx'
      exact K as1 h1 t1 _ p1 X1 O1 rfl
    | cont =>
      cases e
      have hx' : x = .cont := hx
      subst hx'
      exact K as1 h1 t1 _ p1 X1 O1 rfl
    | ret v =>
      cases e
      obtain ⟨val, rfl, hv⟩ := hx
      exact K as1 h1 t1 _ p1 X1 O1 ⟨val, rfl, hv⟩
/-- one turn's start: the next one, laid into its name -/
theorem turnStart {tg : Expr} {tup : Bool} {a : AV → St → Option St} (ht : Tg tg tup) (ha : RefA C n sc tg a) {A : Around} {env : Env} {E : Value → Shared → Prop} {s : Shared} {hk : Heap} {as : List Addr} {st : St} {ai : AI} {it : Addr} {fp : List Addr} {r : Option (AV × AI × Store)} {dat : Addr → Data} {outer : List Env}
    {Qn : Shared → Prop} {Qb : Unit → Shared → Prop} (R : Room A n) (F : Frm sc env) (X : Rel C hk as st (fmOf sc env) s.heap) (Ou : Outer dat outer hk as (fmOf sc env) s.heap) (I : ItAt C as ai it fp s.heap) (P : ∀ b ∈ fp, Apart hk s.heap as (fmOf sc env) b) (hfp : ∀ b ∈ fp, b ∉ frA outer)
    (e : nextA tup ai st.os = some r)
    (K0 : r = none → ∀ h' tk, Rel C hk as st (fmOf sc env) h' → Outer dat outer hk as (fmOf sc env) h' → Qn { s with heap := h', toks := tk })
    (K1 : ∀ v ai' os', r = some (v, ai', os') → ∃ st4, a v ⟨st.loc, os'⟩ = some st4 ∧ ∀ as' h' tk, as <+: as' → Rel C hk as' st4 (fmOf sc env) h' → Outer dat outer hk as' (fmOf sc env) h' → ItAt C as' ai' it fp h' → (∀ b ∈ fp, Apart hk h' as' (fmOf sc env) b) → Qb () { s with heap := h', toks := tk }) :
    wpAny (model prog C.w) A (pyNext (.ref it)) (fun r s1 => match r with
      | none => Qn s1
      | some v => wpAny (model prog C.w) A (letOwnedTupleGo tg (.ref it) v) (fun _ s2 => wpAny (model prog C.w) A (assign tg env v) Qb E s2) E s1) E s := by
  have hfk : ∀ d ∈ fp, hk.get? d = none := fun d hd => (P d hd).nk
  have hof : ∀ a ∈ frA outer, a ∉ fp := fun a ha hf => hfp a hf ha
  have P' : ∀ b ∈ fp, Apart (Rel.allD fp as (fmOf sc env) s.heap) s.heap as (fmOf sc env) b := fun b hb => ⟨(P b hb).nas, (P b hb).nL, (P b hb).nc, hideAll_none _ (List.mem_append_right _ hb), (P b hb).live⟩
  refine next_ok ht R.handled (X.wideD F.nod hfk) I P' e (fun hr h' tk Y => K0 hr h' tk (X.backD F.nod hfk Y) (Ou.step F.nod hof Y)) fun v ai' os' hr as' h' tk val p Y I' Pn hv => ?_
  have X2 := X.backD F.nod hfk Y
  have O2 := Ou.step F.nod hof Y
  have P2 : ∀ b ∈ fp, Apart hk h' as' (fmOf sc env) b := fun b hb => ⟨(Pn b hb).nas, (Pn b hb).nL, (Pn b hb).nc, hfk b hb, (Pn b hb).live⟩
  obtain ⟨st4, q4, K⟩ := K1 v ai' os' hr
  refine ha (s := { s with heap := h', toks := tk }) R F q4 (X2.wideD F.nod (D := []) (fun _ h => by cases h)) hv fun h4 t4 Y4 => ?_
  obtain ⟨I4, P4⟩ := itStep F.nod I' P2 (fun _ _ h => by cases h) (List.prefix_refl _) Y4
  exact K as' h4 t4 p (X2.backD F.nod (fun _ h => by cases h) Y4) (O2.step F.nod (fun _ _ h => by cases h) Y4) I4 P4
theorem iterStart {iter : Expr} {fi} (hi : RefI C n sc iter fi) {A : Around} {env : Env} {E : Value → Shared → Prop} {s : Shared} {hk : Heap} {as : List Addr} {st st' : St} {ai : AI} {Q : Value → Shared → Prop} {dat : Addr → Data} {outer : List Env} (R : Room A n) (F : Frm sc env) (e : fi st = some (ai, st'))
    (X : Rel C hk as st (fmOf sc env) s.heap) (Ou : Outer dat outer hk as (fmOf sc env) s.heap)
    (K : ∀ as' h' tk it fp, as <+: as' → Rel C hk as' st' (fmOf sc env) h' → Outer dat outer hk as' (fmOf sc env) h' → ItAt C as' ai it fp h' → (∀ b ∈ fp, Apart hk h' as' (fmOf sc env) b) → (∀ b ∈ fp, b ∉ frA outer) → Q (.ref it) { s with heap := h', toks := tk }) :
    wpAny (model prog C.w) A (eval iter env) (fun x s1 => wpAny (model prog C.w) A (pyIter x) Q E s1) E s := by
  refine hi R F e (X.wideD F.nod (D := []) (fun _ h => by cases h)) fun as' h' tk it fp p Y I P => ?_
  have hs : ∀ b o, hk.get? b = some o → (Rel.allD [] as (fmOf sc env) s.heap).get? b = some o := fun b o e => Rel.getD (X.S.keep b o e) (X.notFa F.nod e) (fun q => by rw [X.S.off b q] at e; cases e) fun q => by cases q
  refine K as' h' tk it fp p (X.backD F.nod (fun _ h => by cases h) Y) (Ou.step F.nod (fun _ _ h => by cases h) Y) I (fun b hb => ⟨(P b hb).nas, (P b hb).nL, (P b hb).nc, ?_, (P b hb).live⟩) fun b hb hm => ?_
  · cases q : hk.get? b with
    | none => rfl
    | some o => have := (P b hb).nk; rw [hs _ _ q] at this; cases this
  · obtain ⟨a1, o, a2, a3⟩ := Ou.mem hm
    have nfa : b ∉ Rel.fa (fmOf sc env) := fun q => by
      rcases Rel.fa_mem q with q | ⟨_, q⟩
      · exact a1.nL q
      · obtain ⟨x, hx⟩ := lookup_nodup F.nod q
        exact a1.nc x b hx rfl
    have := (P b hb).nk
    rw [Rel.getD a2 nfa a1.nas (fun q => by cases q)] at this; cases this
theorem kRetX {α β : Type} {V : List Addr → β → α → Prop} {hk : Heap} {L : Fm} {dat : Addr → Data} {outer : List Env} {Q : α → Shared → Prop} {s : Shared} {as : List Addr} {a v : β} {b st' : St} (e : some (a, b) = some (v, st'))
    (K : ∀ as' h' tk val, as <+: as' → Rel C hk as' st' L h' → Outer dat outer hk as' L h' → V as' v val → Q val { s with heap := h', toks := tk }) :
    ∀ as' h' tk val, as <+: as' → Rel C hk as' b L h' → Outer dat outer hk as' L h' → V as' a val → Q val { s with heap := h', toks := tk } := by cases e; exact K
inductive XInv (C : Cx) (hk : Heap) (f : Fm) (s : Shared) (dat : Addr → Data) (outer : List Env) (as : List Addr) (it : Addr) (fp : List Addr) {β : Type} (run : Nat → AI → St → Option β) (r : β) (k : Nat) (s' : Shared) : Prop
  | mk (as2 : List Addr) (h2 : Heap) (t2 : Nat) (st2 : St) (ai2 : AI) (eq : s' = { s with heap := h2, toks := t2 }) (p : as <+: as2) (X : Rel C hk as2 st2 f h2) (O : Outer dat outer hk as2 f h2) (I : ItAt C as2 ai2 it fp h2) (P : ∀ b ∈ fp, Apart hk h2 as2 f b) (e : run k ai2 st2 = some r)
theorem RefX.for {target iter : Expr} {body : List Stmt} {pos : Pos} {tup : Bool} {fi a fb} (hi : RefI C n sc iter fi) (ht : Tg target tup) (ha : RefA C n sc target a) (hb : RefX C n sc (execs body) fb) (hs : ∀ env x, foldedSetIterable iter env x = pure x := by intro _ _; rfl) :
    RefX C n sc (exec (.For target iter body [] pos)) (cFor tup fi a fb) := by
  intro A env E s hk as st st' v Q dat outer R F hc hfr hA e X Ou K
  refine ob_elim e fun ai s1 q1 e => ?_
  refine wpAny_For (iterStart hi R F q1 X Ou fun as1 h1 t1 it fp p1 X1 O1 I1 P1 hfp => ?_) (hs env)
  refine codeAny_forLoop_any (XInv C hk (fmOf sc env) s dat outer as it fp (cForL tup a fb) (v, st')) (fun k s' H => ?_) 200 ⟨as1, h1, t1, s1, ai, rfl, p1, X1, O1, I1, P1, e⟩
  cases H with
  | mk as2 h2 t2 st2 ai2 eq p2 X2 O2 I2 P2 e2 =>
  subst eq
  cases k with
  | zero => exact noS e2
  | succ k =>
    refine o1_elim e2 fun r q2 e3 => ?_
    refine turnStart (s := { s with heap := h2, toks := t2 }) ht ha R F X2 O2 I2 P2 hfp q2 (fun hr h3 t3 X3 O3 => ?_) fun u ai3 os3 hr => ?_
    · subst hr
      exact wpAny_execs_nil (kRetX e3 K as2 h3 t3 _ p2 X3 O3 rfl)
    · subst hr
      refine o1_elim e3 fun st4 q3 e4 => ob_elim e4 fun fl st5 q4 e5 => ?_
      refine ⟨st4, q3, fun as4 h4 t4 p4 X4 O4 I4 P4 => ?_⟩
      refine hb (s := { s with heap := h4, toks := t4 }) R F hc hfr hA q4 (X4.wideD F.nod O4.nk) O4.wide fun as5 h5 t5 fv p5 Y5 O5 hf => ?_
      have X5 := X4.backD F.nod O4.nk Y5
      have O5' := O4.conv O5
      have T5 := itStep F.nod I4 P4 hfp p5 Y5
      have pp := p2.trans (p4.trans p5)
      cases fl with
      | next => cases hf; exact ⟨k, Nat.lt_succ_self _, as5, h5, t5, st5, ai3, rfl, pp, X5, O5', T5.1, T5.2, e5⟩
      | cont => cases hf; exact ⟨k, Nat.lt_succ_self _, as5, h5, t5, st5, ai3, rfl, pp, X5, O5', T5.1, T5.2, e5⟩
      | brk => cases hf; exact kRetX e5 K as5 h5 t5 _ pp X5 O5' rfl
      | ret w => exact hf.elim fun val hv => by rw [hv.1]; exact kRetX e5 K as5 h5 t5 _ pp X5 O5' ⟨val, rfl, hv.2⟩
end
end Mine
end
end
section
set_option maxRecDepth 100000
set_option maxHeartbeats 0
set_option linter.unusedVariables false
set_option linter.unusedSectionVars false
set_option autoImplicit false
set_option genSizeOf false
set_option genInjectivity false
noncomputable section
namespace Mine
open PySem PySem.W PyProof.Rows
section
variable {C : Cx} {n : Nat} {sc : Sc}
/-! the clause: except SMTPRecipientsRefused as refusal -/
theorem handleE {prog' : Program} {w : World} {p : Params} {A : Around} {E : Value → Shared → Prop} {s : Shared} {env : Env} {e : Addr} {t : Expr} {nn : Str} {b₀ : Stmt} {suite : List Stmt} {pos : Pos} {rest : List ExceptHandler} {Q : Flow → Shared → Prop}
    (h : wpAny (model prog' w) (A.mark (some (.ref e))) (eval t env) (fun c s₁ => c = .ref 92 ∧ (hd.heap_1 p).In s₁.heap ∧ (∃ oe, s₁.heap.get? e = some oe ∧ oe.cls = .ref 92) ∧
      wpAny (model prog' w) (A.mark (some (.ref e))) (setFlight (.ref e) none) (fun _ s₂ =>
          wpAny (model prog' w) (A.mark (some (.ref e))) (storeName env nn (.ref e)) (fun _ s₃ =>
            wpAny (model prog' w) (A.mark (some (.ref e))) (execs (b₀ :: suite) env)
              (fun f s₄ => wpAny (model prog' w) A (do bindName env nn .none; unbindBehindTheSuite env nn pos) (fun _ s₅ => Q f s₅) E s₄)
              (AsSuiteRaised (model prog' w) (A.mark (some (.ref e))) env nn pos (notedBy (model prog' w) (A.mark (some (.ref e))) env (cameBackBy (model prog' w) A env E))) s₃) (notedBy (model prog' w) (A.mark (some (.ref e))) env (cameBackBy (model prog' w) A env E)) s₂) (notedBy (model prog' w) (A.mark (some (.ref e))) env (cameBackBy (model prog' w) A env E)) s₁) (notedBy (model prog' w) (A.mark (some (.ref e))) env (cameBackBy (model prog' w) A env E)) s) :
    wpAny (model prog' w) A (handleBy (.ref e) env (.ExceptHandler (some t) (some nn) (b₀ :: suite) pos :: rest)) Q E s := by
  refine wpAny_handleBy_cons (codeAny_handlers_test (wpAny_mono h (fun c s₁ h₁ => ?_) fun _ _ y => y)) (by intro q; cases q)
  obtain ⟨rfl, X, ⟨oe, he, hc⟩, hk⟩ := h₁
  obtain ⟨hp, g, d, tk, os⟩ := s₁
  obtain ⟨oc, od, cd, sl, ho, _⟩ := e_lookup p
  have hC := X _ _ ho
  have L0 : Looks (model prog' w) hp (typeOf (.ref e)) (.ref 92) := hc ▸ (Looks.ld he).andThen .now
  have L1 : Looks (model prog' w) hp (typeOf (.ref 92)) (.type "type") := looks_typeIn X (show typeIn (hd.heap_1 p) (.ref 92) = some (.type "type") from rfl)
  have L2 : Looks (model prog' w) hp (isInstance (.ref 92) (.type "tuple")) false := L1.andThen (Looks.of_pure tc_notTuple)
  have L3 : Looks (model prog' w) hp (isType (.ref 92)) true := (Looks.ld hC).andThen .now
  have L4 : Looks (model prog' w) hp (isSubtype (.ref 92) (.type "BaseException")) true := looks_mroIn X (e_bexc p)
  have L5 : Looks (model prog' w) hp (isSubtype (.ref 92) (.ref 92)) true := looks_mroIn X (e_self p)
  have L6 : Looks (model prog' w) hp (isExcClass (.ref 92)) true := by
    unfold isExcClass
    exact L3.andThen L4
  unfold excMatches
  refine wpAny_bind (L2.at ?_)
  repeat (first | simp only [Bool.false_eq_true, if_false, List.forIn_cons, List.forIn_nil, Bool.not_true] | lk)
  exact codeAny_handlers_suite_as hk
theorem ns_unique {h : Heap} {a : Addr} {m m' : Str → Option Value} (x : h.Ns a m) (y : h.Ns a m') : m = m' := by
  obtain ⟨o, es, ep, e, d, _, f⟩ := x
  obtain ⟨o', es', ep', e', d', _, f'⟩ := y
  rw [e] at e'
  cases e'
  rw [d] at d'
  cases d'
  funext z
  rw [← f z, f' z]
/-- counts.append(len(refusal.recipients)) -/
theorem handBody (O : Ok C) (P : Pg C) (B : Bn C) {A : Around} {env : Env} {E : Value → Shared → Prop} {s : Shared} {hk : Heap} {as : List Addr} {st : St} {l i : Nat} {es : List (List Nat × AV)} {o2 : Store} {v : Value} {m m1 : Str → Option Value} {ex dx : Addr} {oe : Obj} {vs : Array Value} {Q : Flow → Shared → Prop}
    {p1 p2 p3 p4 p5 p6 p7 : Pos}
    (F : Frm ⟨(defK 18).scope, true⟩ env) (hc : env.cells = []) (X : Rel C hk as st (fmOf ⟨(defK 18).scope, true⟩ env) s.heap) (hn : s.heap.Ns env.locals m1) (hr : m1 (Str.ofString "refusal") = some (.ref ex)) (he : s.heap.get? ex = some oe) (hec : oe.cls = .ref 92) (hed : oe.dict = some dx) (hef : oe.data = .fields vs)
    (hx : s.heap.Ns1 dx m) (hm : m "recipients" = some v) (hv : RV C as (.ref i) v) (q1 : lk 32 st.loc = some (.ref l)) (q2 : st.os.get i = some (.dictS es)) (q3 : Nat.ble es.length 2000 = true) (q4 : appO l (.int (.ofNat es.length)) st.os = some o2)
    (hline : (p3.endLine == p6.line) = true)
    (K : ∀ h' tk, Rel C hk as ⟨st.loc, o2⟩ (fmOf ⟨(defK 18).scope, true⟩ env) h' → h'.Ns env.locals m1 → Q .next { s with heap := h', toks := tk }) :
    wpAny (model prog C.w) A (execs [.Expr (.Call (.Attribute (.Name (nm 32) p1) (Str.ofString "append") p3) [.Call (.Name (Str.ofString "len") p2) [.Attribute (.Name (Str.ofString "refusal") p4) (Str.ofString "recipients") p5] [] p7] [] p6) p6] env) Q E s := by
  refine wpAny_execs_cons (wpAny_Expr_any ?_ (by unfold interactive; rw [F.eqv]; rfl) (by rfl))
  obtain ⟨m0, hn0, hl0⟩ := X.ns
  obtain rfl : m0 = m1 := ns_unique hn0 hn
  obtain ⟨_, vl, hvl, hvr⟩ := hl0 32 _ q1
  unfold VarAt at hvl
  rw [show (fmOf ⟨(defK 18).scope, true⟩ env).cl = env.cells from rfl, hc] at hvl
  have hvl : m0 (nm 32) = some vl := hvl
  refine wpAny_Call_method (by rfl) (by rfl) hline PySem.F.plainAttrs_list PySem.F.slot_list_append PySem.F.type_list_append ?_
  refine localName F.fn (F.kindOf (by decide +kernel)) hn hvl (by decide +kernel) ?_
  obtain ⟨xs, qx, hx2, qs⟩ := appO_eq q4
  obtain ⟨al, items, nn, rfl, hal, hll, hlr⟩ := X.listAt qx hvr
  refine ⟨hll.isList.typeIs, fun a q => by cases q; exact ⟨_, hll, rfl⟩, ?_⟩
  refine Calls.callWith_builtin (by rfl) ?_
  refine args_of (by rfl) (wpAny_items_cons ?_ (by rfl))
  refine wpAny_Call_Name_kw (nameB O X F (v := .builtin "len") (by decide +kernel) (B.no _ (by decide +kernel)) rfl rfl (by decide) ?_)
  refine callFlat (.b "len") (by rfl) (args_of (by rfl) (wpAny_items_cons ?_ (by rfl)))
  refine Attribute_name (localName F.fn (F.kindOf (by decide +kernel)) hn hr (by decide +kernel) ?_)
  have hh : handedIn v = true := by obtain ⟨a, _, rfl⟩ := hv; rfl
  refine excRead (p := C.w.params) (P.frag.keeps fun b o e => X.S.inBase e) he hec hef hed hx hm hh fun tk => wpAny_items_nil ?_
  obtain ⟨ad, kvs, rfl, had, hdd, hkv⟩ := X.dictS q2 hv
  have l1 := hkv.length
  have b1 := ble_iff.mp q3
  refine call_len_dict (s := { s with toks := tk }) (X.loS q2 had) hdd (by omega) (wpAny_items_nil ?_)
  show wpAny _ _ (call (.builtin "list.append") [.ref al, .int (kvs.length : Nat) (tk + 1)]) _ _ _
  have lx := hlr.length
  simp only [Array.length_toList] at lx
  refine wpAny_list_append_plain ⟨nn, hll⟩ (fun h7 hl7 hs7 => ?_) (by rw [line_is]; omega)
  obtain ⟨m7, hl7⟩ := hl7
  have hne : al ≠ env.locals := fun q => X.notL (by rw [show (fmOf ⟨(defK 18).scope, true⟩ env).L = env.locals from rfl, ← q]; exact List.mem_of_getElem? hal)
  refine wpAny_execs_nil (K h7 _ (X.set qs hal hs7.extBut hl7 ⟨_, m7, hl7, ?_⟩ rfl ⟨_, qx, rfl⟩) ?_)
  · rw [Array.toList_push]
    refine hlr.append (.one ⟨tk + 1, ?_⟩)
    show Value.int ((kvs.length : Nat) : Int) _ = Value.int ((es.length : Nat) : Int) _
    rw [l1]
  · obtain ⟨o, es', ep', e1, r⟩ := hn
    exact ⟨o, es', ep', hs7.extBut _ _ (Ne.symm hne) e1, r⟩
end
end Mine
end
end
section
set_option maxRecDepth 100000
set_option maxHeartbeats 0
set_option linter.unusedVariables false
set_option linter.unusedSectionVars false
set_option autoImplicit false
set_option genSizeOf false
set_option genInjectivity false
noncomputable section
namespace Mine
open PySem PySem.W PyProof.Rows
section
variable {C : Cx} {n : Nat} {sc : Sc}
/-- the frame stood, its store told anew from what stays -/
theorem Rel.again {hk h h' base : Heap} {as as' Fr : List Addr} {st : St} {os' : Store} {f : Fm} (X : Rel C hk as st f h) (hcl : f.cl = []) (p : as <+: as') (S : RelS C (hideAll (RelS.all as h) Fr) as' os' base) (stays : base.StaysIn h') (hL : f.L ∈ Fr) (nF : ∀ a ∈ Fr, a ∉ as')
    (hFr : ∀ a ∈ Fr, hk.get? a = none) (slot : ∀ o, h.get? f.L = some o → ∃ sl, h'.get? f.L = some { o with slots := sl }) : Rel C hk as' ⟨st.loc, os'⟩ f h' := by
  have S' : RelS C hk as' os' h' := (S.weaken X.S.base fun b o e => hideAll_get _ (RelS.allGet (X.S.keep b o e) fun q => by rw [X.S.off b q] at e; cases e) fun q => by rw [hFr b q] at e; cases e).ext stays
  obtain ⟨m, hn, hl⟩ := X.ns
  refine ⟨S', X.offL, nF _ hL, ⟨m, ?_, fun k v e => ?_⟩, ?_, ?_, ?_, ?_, ?_⟩
  · obtain ⟨o, es, ep, e1, e2, r⟩ := hn
    obtain ⟨sl, e3⟩ := slot o e1
    exact ⟨_, es, ep, e3, e2, r⟩
  · obtain ⟨a, val, b, c⟩ := hl k v e
    unfold VarAt at b ⊢
    rw [hcl] at b ⊢
    exact ⟨a, val, b, c.mono p⟩
  · rw [hcl]; intro x ca q; cases q
  · rw [hcl]; intro x ca q; cases q
  · rw [hcl]; intro x ca q; cases q
  · rw [hcl]; intro _ x ca q; cases q
  · rw [hcl]; intro x y ca q; cases q
noncomputable def try18S : Stmt := (bodyOf ((defK 18).body.getD 1 (.Pass ⟨0, 0, 0, 0⟩))).getD 1 (.Pass ⟨0, 0, 0, 0⟩)
theorem h18_is {w : AV} {s s' : St} {v : AF} (e : h18 w s = some (v, s')) : ∃ l i es o2, has 34 s.loc = false ∧ lk 32 s.loc = some (.ref l) ∧ w = .ref i ∧ s.os.get i = some (.dictS es) ∧ Nat.ble es.length 2000 = true ∧ appO l (.int (.ofNat es.length)) s.os = some o2 ∧ v = .next ∧ s' = ⟨s.loc, o2⟩ := by
  refine bT_elim e fun q0 e => o1_elim e fun q q1 e => onRef_elim e fun l hl e => onRef_elim e fun i hi e => onDS_elim e fun es q2 e => bT_elim e fun q3 e => o1_elim e fun o2 q4 z => ?_
  cases z
  subst hl hi
  exact ⟨l, i, es, o2, not_t q0, q1, rfl, q2, q3, q4, rfl, rfl⟩
theorem has_lk {k : Nat} {l : Loc} : has k l = false → lk k l = none := by
  induction l with
  | nil => intro _; rfl
  | cons p r ih =>
    intro h
    rw [has_cons, Tr.beq_eq] at h
    rw [lk_cons]
    by_cases q : k = p.1
    · simp [q] at h
    · simp only [q, decide_false] at h
      rw [if_neg q]
      exact ih h
theorem try18_is {st st' : St} {v : AF} (e : try18 st = some (v, st')) : ∃ ai s1 r s2, i18 st = some (ai, s1) ∧ x18 200 ai s1 = some (r, s2) ∧ (∀ w, r = some w → h18 w s2 = some (v, st')) ∧ (r = none → cThen (cRet (cVar 32)) cEnd s2 = some (v, st')) := by
  refine ob_elim e fun ai s1 q1 e => ob_elim e fun r s2 q2 e => oC_elim e (fun w hw z => ?_) fun hw z => ?_
  · subst hw
    exact ⟨ai, s1, some w, s2, q1, q2, fun w' z' => by cases z'; exact z, fun z => by cases z⟩
  · subst hw
    exact ⟨ai, s1, none, s2, q1, q2, (fun w' z => by cases z), fun _ => z⟩
theorem mark_none {A : Around} (h : A.handled = none) : A.mark none = A := by
  obtain ⟨a, b, c, d, u⟩ := A
  dsimp only at h
  subst h
  rfl
theorem lookingA {M : Model} {A : Around} {env : Env} {K : Value → Shared → Prop} {E₁ : Value → Shared → Prop} (h : A.handled = none) {e : Value} {s' : Shared} (hh : wpAny M A (noteFrame e env) (fun _ s'' => K e s'') E₁ s') :
    notedBy M A env (cameBackBy M A env (fun e s' => wpAny M A (noteFrame e env) (fun _ s'' => K e s'') E₁ s')) e s' := by
  have := PassesOwnAt.looking (M := M) (A := A) (hd := none) (env := env) (K := K) (E₁ := E₁)
  rw [mark_none h] at this
  exact this e s' hh
theorem Rel.renamed {hk h h' : Heap} {as : List Addr} {st : St} {f : Fm} (X : Rel C hk as st f h) (hcl : f.cl = []) {m m' : Str → Option Value} (n : h.Ns f.L m) (n' : h'.Ns f.L m') (s : Heap.ExtBut f.L h h')
    (e : ∀ j, j < 65 → lk j st.loc ≠ none → m' (nm j) = m (nm j)) : Rel C hk as st f h' := by
  obtain ⟨mm, nn, ll⟩ := X.ns
  obtain rfl := ns_unique nn n
  refine ⟨X.S.extBut s X.notL X.offL, X.offL, X.notL, ⟨_, n', fun j u ej => ?_⟩, X.cnot, X.cL, ?_, X.coff, X.apart⟩
  · obtain ⟨z1, val, z2, z3⟩ := ll j u ej
    refine ⟨z1, val, ?_, z3⟩
    unfold VarAt at z2 ⊢
    rw [hcl] at z2 ⊢
    exact (e j z1 fun q => by rw [q] at ej; cases ej).trans z2
  · rw [hcl]
    intro x ca q
    cases q
theorem slotsUp {fr : List Env} {as : List Addr} {h5 h6 h7 : Heap} (Fk : FrOk C fr as h5) (sl : ∀ a ∈ frA fr, ∀ o, h5.get? a = some o → ∃ sl, h6.get? a = some { o with slots := sl }) (U : h6.UpToSlots h7) :
    ∀ a ∈ frA fr, ∀ o, h5.get? a = some o → ∃ sl, h7.get? a = some { o with slots := sl } := fun a ha o e => by
  obtain ⟨sl, e8⟩ := sl a ha o e
  obtain ⟨_, _, o', f3, f4⟩ := Fk.at ha
  rw [e] at f3
  cases f3
  exact U a { o with slots := sl } e8 f4
theorem Outer.again {dat : Addr → Data} {outer : List Env} {hk h h' : Heap} {as as' : List Addr} {f : Fm} (O : Outer dat outer hk as f h) (nF : ∀ a ∈ frA outer, a ∉ as') (sl : ∀ a ∈ frA outer, ∀ o, h.get? a = some o → ∃ sl, h'.get? a = some { o with slots := sl }) : Outer dat outer hk as' f h' := fun ev hev => by
  obtain ⟨g0, L, gg1, gg2, o, gg3, gg4⟩ := O ev hev
  have hm := List.mem_filterMap.mpr ⟨ev, hev, gg1⟩
  obtain ⟨sl, e9⟩ := sl L hm o gg3
  exact ⟨g0, L, gg1, ⟨nF L hm, gg2.nL, gg2.nc, gg2.nk, ⟨_, e9⟩⟩, _, e9, gg4⟩
theorem frOk_in {dat : Addr → Data} {env : Env} {outer : List Env} {hk h : Heap} {as : List Addr} {st : St} {f : Fm} (hm : env.scope.kind ≠ .module) (hfr : env.frame = some f.L) (X : Rel C hk as st f h) (O : Outer dat outer hk as f h) : FrOk C (env :: outer) as h := by
  have nHb : ∀ a, hk.get? a = none → C.hb.get? a = none := fun a q => by
    cases z : C.hb.get? a with
    | none => rfl
    | some o => rw [X.S.base _ _ z] at q; cases q
  intro ev hev
  rcases List.mem_cons.mp hev with rfl | hev
  · obtain ⟨mL, ⟨o, es, ep, e1, e2, _⟩, _⟩ := X.ns
    exact ⟨hm, _, o, hfr, nHb _ X.offL, X.notL, e1, fun vs q => by rw [e2] at q; cases q⟩
  · obtain ⟨g0, L, g1, g2, o, g3, g4⟩ := O ev hev
    exact ⟨g0, L, o, g1, nHb _ g2.nk, g2.nas, g3, g4.2⟩
theorem frA_off {dat : Addr → Data} {env : Env} {outer : List Env} {hk h : Heap} {as : List Addr} {st : St} {f : Fm} (hfr : env.frame = some f.L) (X : Rel C hk as st f h) (O : Outer dat outer hk as f h) : ∀ a ∈ frA (env :: outer), hk.get? a = none := fun a ha => by
  obtain ⟨ev, h1, h2⟩ := frA_mem ha
  rcases List.mem_cons.mp h1 with rfl | h1
  · rw [hfr] at h2; cases h2; exact X.offL
  · exact (O.mem (List.mem_filterMap.mpr ⟨ev, h1, h2⟩)).1.nk
theorem ex_ne {h : Heap} {ex L : Addr} {oe : Obj} {vs : Array Value} {m : Str → Option Value} (n : h.Ns L m) (y1 : h.get? ex = some oe) (y4 : oe.data = .fields vs) : ex ≠ L := fun q => by
  obtain ⟨o, _, _, z, zz, _⟩ := n
  rw [← q, y1] at z
  cases z
  rw [y4] at zz
  cases zz
theorem dx_ne {base h : Heap} {env : Env} {outer : List Env} {ex dx L : Addr} {c a0 fl : Value} {m : Str → Option Value} (G : Fly base (env :: outer) ex c dx a0 fl h) (hfr : env.frame = some L) (hdx : base.Ns1 dx m) : dx ≠ L := fun q => by
  obtain ⟨o, _, _, z, _⟩ := hdx
  obtain ⟨_, ⟨L, o', r1, r2, _⟩, _⟩ := G.frames
  rw [hfr] at r1
  cases r1
  rw [q, r2] at z
  cases z
theorem nm34 {loc : Loc} (c0 : has 34 loc = false) {α : Type} {x y : α} (j : Nat) (z1 : j < 65) (e : lk j loc ≠ none) : (if nm j = Str.ofString "refusal" then x else y) = y := if_neg fun q => by
  obtain rfl := nm_inj j 34 z1 (by decide) q
  exact e (has_lk c0)
theorem try18_ok (O : Ok C) (P : Pg C) (PG : Pg2 C) (B : Bn C) {Ad : Nat → Addr} (D : ∀ j ∈ fnIx, FnAt C (defK j) (Ad j)) : RefX C (n + 3) ⟨(defK 18).scope, true⟩ (exec try18S) try18 := by
  intro A env E s hk as st st' v Q dat outer R F hcl hfr hA e X Ou K
  obtain ⟨ai, s1, r, s2, q1, q2, qw, qn⟩ := try18_is e
  have hAm : A.mark none = A := mark_none R.handled
  refine wpAny_Try_except ?_
  refine wpAny_execs_cons ?_
  refine wpAny_For (iterStart (RefI.val O (RefE.var (k := 6) (by decide +kernel))) R F q1 X Ou fun as1 h1 t1 it fp p1 X1 O1 I1 P1 hfp => ?_) (by intro _; rfl)
  refine codeAny_forLoop_any (XInv C hk (fmOf ⟨(defK 18).scope, true⟩ env) s dat outer as it fp x18 (r, s2)) (fun k s' H => ?_) 200 ⟨as1, h1, t1, s1, ai, rfl, p1, X1, O1, I1, P1, q2⟩
  cases H with
  | mk as2 h2 t2 st2 ai2 eq p2 X2 O2 I2 P2 e2 =>
  subst eq
  cases k with
  | zero => exact noS e2
  | succ k =>
      refine o1_elim e2 fun rr q3 e3 => ?_
      refine turnStart (s := { s with heap := h2, toks := t2 }) (.name _ _) (RefA.name (k := 26) ⟨by decide, .inl (by decide +kernel)⟩) R F X2 O2 I2 P2 hfp q3 (fun hr h3 t3 X3 O3 => ?_) fun u ai3 os3 hr => ?_
      · subst hr
        cases e3
        refine wpAny_execs_nil ?_
        show wpAny _ _ (execs _ env) _ _ _
        refine RefX.ofs (C := C) (n := n + 3) (sc := ⟨(defK 18).scope, true⟩) (RefSs.cons (by exact (RefS.ret (RefE.var (k := 32) (by decide +kernel)))) RefSs.nil) R F hcl hfr hA (qn rfl) X3 O3 fun as4 h4 t4 val p4 X4 O4 hv => ?_
        have KK := K as4 h4 t4 val (p2.trans p4) X4 O4 hv
        cases val with
        | next => exact wpAny_execs_nil KK
        | _ => exact KK
      · subst hr
        refine o1_elim e3 fun s6 q6 e4 => ob_elim e4 fun args s5 qa e5 => ob_elim e5 fun b os6 qm e2 => ?_
        refine ⟨s6, q6, fun as4 h4 t4 p4 X4 O4 I4 P4 => ?_⟩
        obtain ⟨ob, pm, code, doc, ho, hdt, hcr⟩ := (D 17 (by decide)).fn
        refine wpAny_execs_cons (wpAny_Expr_any ?_ (by unfold interactive; rw [F.eqv]; rfl) (by rfl))
        refine wpAny_Call_Name_kw (nameG O X4 F (v := .ref (Ad 17)) (by decide +kernel) (show C.mg (defK 17).name = some (.ref (Ad 17)) from (D 17 (by decide)).mg) (by decide +kernel) ?_)
        refine Calls.callWith_function (o := ob) (fd := Calls.docDef (defK 17).name (defK 17).params (defK 17).body (defK 17).scope pm code doc) (args_of (by rfl) ?_)
        have nD : ∀ d ∈ ([] : List Addr), hk.get? d = none := fun _ h => by cases h
        refine (show RefL C (n + 3) ⟨(defK 18).scope, true⟩ _ a18 from (RefL.cons (RefE.var (k := 26) (by decide +kernel)) (RefL.cons (RefE.var (k := 5) (by decide +kernel)) (RefL.cons (RefE.var (k := 30) (by decide +kernel)) (RefL.cons (RefE.addF RefE.int (RefE.callB O oSum_ok (RefL.cons (RefE.slice (RefE.var (k := 32) (by decide +kernel)) (RefO.some (RefE.neg RefE.int)) RefO.none) RefL.nil) (.b "sum") (by decide +kernel) (B.no _ (by decide +kernel)) rfl rfl (by decide))) RefL.nil))))) _ R F qa (X4.wideD F.nod nD) fun as5 h5 t5 xs p5 Y5 hxs => ⟨⟨Y5.S.inBase ho, hdt⟩, ?_⟩
        have X5 := X4.backD F.nod nD Y5
        have O5 := O4.step F.nod (fun _ _ h => by cases h) Y5
        obtain ⟨I5, P5⟩ := itStep F.nod I4 P4 (fun _ _ h => by cases h) p5 Y5
        have p25 := p2.trans (p4.trans p5)
        show wpAny _ _ (call (.ref (Ad 17)) ([] ++ xs) []) _ _ _
        rw [List.nil_append]
        have hfrOk : FrOk C (env :: outer) as5 h5 := frOk_in (by rw [F.eqv, F.kind]; decide) hfr X5 O5
        refine make17 O P PG B D R hA hfrOk qm X5.S.wide hxs (fun hb as6 h6 t6 p6 S6 => ?_) fun w hb as6 base h6 t6 ex dx vv m a0 p6 hv S6 nF hdx hmv G6 hsl => ?_
        · subst hb
          have Y6 := (X5.wideD F.nod nD).callee p6 S6
          have X6 := X5.backD F.nod nD Y6
          have O6 := O5.step F.nod (fun _ _ h => by cases h) Y6
          obtain ⟨I6, P6⟩ := itStep F.nod I5 P5 (fun _ _ h => by cases h) p6 Y6
          exact wpAny_execs_nil ⟨k, Nat.lt_succ_self _, as6, h6, t6, _, ai3, rfl, p25.trans p6, X6, O6, I6, P6, e2⟩
        · subst hb
          cases e2
          obtain ⟨l, i, es, o2, c0, c1, rfl, c2, c3, c4, rfl, rfl⟩ := h18_is (qw w rfl)
          refine lookingA R.handled ?_
          have hLm : env.locals ∈ frA (env :: outer) := List.mem_filterMap.mpr ⟨env, .head _, hfr⟩
          have hoM : ∀ a ∈ frA outer, a ∈ frA (env :: outer) := fun a ha => by
            obtain ⟨ev, h1, h2⟩ := frA_mem ha
            exact List.mem_filterMap.mpr ⟨ev, .tail _ h1, h2⟩
          have hFr := frA_off hfr X5 O5
          refine noteNextD hA hfr G6 fun h7 G7 U7 => ?_
          refine setFlightD G7 fun h8 G8 U8 => ?_
          have slots8 := slotsUp hfrOk (slotsUp hfrOk hsl U7) U8
          have X8 := X5.again (f := fmOf ⟨(defK 18).scope, true⟩ env) hcl p6 S6 G8.stays hLm nF hFr (slots8 _ hLm)
          refine handleE (p := C.w.params) ?_
          refine nameG O X8 F (by decide +kernel) PG.rr (by decide) ?_
          obtain ⟨oe8, vs8, g1, g2, _, _⟩ := G8.tr.there
          refine ⟨rfl, P.frag.keeps fun b o e => X8.S.inBase e, ⟨oe8, g1, g2⟩, ?_⟩
          refine setFlightD G8 fun h9 G9 U9 => ?_
          have slots9 := slotsUp hfrOk slots8 U9
          have X9 := X5.again (f := fmOf ⟨(defK 18).scope, true⟩ env) hcl p6 S6 G9.stays hLm nF hFr (slots9 _ hLm)
          have O9 := O5.again (fun a ha => nF a (hoM a ha)) fun a ha => slots9 a (hoM a ha)
          obtain ⟨oe9, vs9, y1, y2, y3, y4⟩ := G9.tr.there
          have dx9 : h9.Ns1 dx m := hdx.at fun o e => G9.stays _ _ e
          have W9 := X9.wideD F.nod nD
          obtain ⟨m9, n9, l9⟩ := W9.ns
          have n9 : h9.Ns env.locals m9 := n9
          have kl : env.kindOf (Str.ofString "refusal") = some .local := F.kindOf (by decide +kernel)
          refine wpAny_storeName_local kl n9 (fun h10 n10 s10 => ?_) F.plain
          have dxL : dx ≠ env.locals := dx_ne G6 hfr hdx
          have X10 : Rel C (Rel.allD [] as6 (fmOf ⟨(defK 18).scope, true⟩ env) h9) as6 ⟨s5.loc, os6⟩ (fmOf ⟨(defK 18).scope, true⟩ env) h10 := W9.renamed hcl n9 n10 s10.extBut fun j z1 e => nm34 c0 j z1 e
          refine handBody (l := l) (i := i) (es := es) (o2 := o2) O P B F hcl X10 n10 (if_pos rfl) (s10.extBut _ _ (ex_ne n9 y1 y4) y1) y2 y3 y4 (dx9.sameBut s10 dxL) hmv hv c1 c2 c3 c4 rfl fun h11 t11 X11 n11 => ?_
          refine wpAny_nameGoes_keeps kl n11 F.plain fun h12 vx n12 s12 => ?_
          have X12 : Rel C (Rel.allD [] as6 (fmOf ⟨(defK 18).scope, true⟩ env) h9) as6 ⟨s5.loc, o2⟩ (fmOf ⟨(defK 18).scope, true⟩ env) h12 := X11.renamed hcl n11 n12 s12.extBut fun j z1 e => nm34 c0 j z1 e
          exact K as6 h12 _ .next (p25.trans p6) (X9.backD F.nod nD X12) (O9.step F.nod (fun _ _ h => by cases h) X12) rfl
end
end Mine
end
end
section
set_option maxRecDepth 100000
set_option maxHeartbeats 0
set_option linter.unusedVariables false
set_option linter.unusedSectionVars false
set_option autoImplicit false
set_option genSizeOf false
set_option genInjectivity false
noncomputable section
namespace Mine
open PySem PySem.W PyProof.Rows
section
variable {C : Cx} {n : Nat} {sc : Sc}
theorem s18 (O : Ok C) (P : Pg C) (P2 : Pg2 C) (B : Bn C) {Ad : Nat → Addr} (D : ∀ j ∈ fnIx, FnAt C (defK j) (Ad j)) : RefX C (n + 3) ⟨(defK 18).scope, true⟩ (execs (defK 18).body) b18 :=
  RefX.cons (RefX.of (by exact (RefS.asg (RefE.list RefL.nil) ⟨by decide, .inl (by decide +kernel)⟩))) (RefX.cons (RefX.for (by exact (RefI.val O (RefE.var (k := 6) (by decide +kernel)))) (.name _ _) (by exact (RefA.name ⟨by decide, .inl (by decide +kernel)⟩))
    (RefX.cons (RefX.of (by exact (RefS.asg RefE.dictS ⟨by decide, .inl (by decide +kernel)⟩))) (RefX.cons (by exact (try18_ok O P P2 B D)) (RefX.ofs RefSs.nil)))) (RefX.ofs (RefSs.cons (by exact (RefS.ret (RefE.var (k := 32) (by decide +kernel)))) RefSs.nil)))
theorem fnOf_flow {ks : List Nat} {f : St → Option (AF × St)} {args : List AV} {os os' : Store} {v : AV} (e : fnOf ks f args os = some (v, os')) : ∃ fl s', f ⟨zipL ks args, os⟩ = some (fl, s') ∧ s'.os = os' ∧ (fl = .ret v ∨ (fl = .next ∧ v = .none)) := by
  refine bT_elim e fun _ e => ob_elim e fun fl s' q e => retF_elim e (fun u hu z => ?_) fun hu z => ?_
  · cases z
    exact ⟨_, _, q, rfl, .inl hu⟩
  · cases z
    exact ⟨_, _, q, rfl, .inr ⟨hu, rfl⟩⟩
theorem call18 (O : Ok C) (P : Pg C) (P2 : Pg2 C) (B : Bn C) {Ad : Nat → Addr} (D : ∀ j ∈ fnIx, FnAt C (defK j) (Ad j)) {A : Around} {E : Value → Shared → Prop} {s : Shared} {hk : Heap} {as : List Addr} {os os' : Store} {args : List AV} {vals : List Value} {v : AV} {Q : Value → Shared → Prop} {fr : List Env}
    (R : Room A (n + 4)) (hfr : A.frames = some fr) (Fk : FrOk C fr as s.heap) (e : f18 args os = some (v, os')) (X : RelS C hk as os s.heap) (hx : RVs C as args vals)
    (K : ∀ as' h' tk val, as <+: as' → RelS C (hideAll (RelS.all as s.heap) (frA fr)) as' os' h' → RV C as' v val → (∀ a ∈ frA fr, a ∉ as' ∧ ∀ o, s.heap.get? a = some o → ∃ o', h'.get? a = some o' ∧ o'.data = o.data) → Q val { s with heap := h', toks := tk }) :
    wpAny (model prog C.w) A (call (.ref (Ad 18)) vals) Q E s := by
  obtain ⟨fl, s', q1, q2, q3⟩ := fnOf_flow e
  obtain ⟨ob, pm, code, doc, ho, hdt, hcr⟩ := (D 18 (by decide)).fn
  have hlen : vals.length = [6, 5].length := hx.length.trans (fnOf_len e)
  refine wpAny_call (enter O rfl rfl rfl (s0 := (defK 18).scope) (body := (defK 18).body) rfl rfl (fun b o e => X.inBase e) ho hdt hcr (ks := [6, 5]) (by obtain ⟨v1, v2, rfl⟩ := len2 hlen; exact BindsTo.of_eq (by kernel_rfl)) (by decide +kernel) (by decide +kernel) (by decide +kernel) (by decide +kernel) (by decide +kernel) R fun env h₀ tk0 R' F eL eF0 eC fL hns hext => ?_)
  have fresh : s.heap.get? s.heap.objs.size = none := fresh_size _
  have eF : env.frame = some env.locals := eF0.trans (congrArg some eL.symm)
  have hb : ∀ b o, C.hb.get? b = some o → (hideAll (RelS.all as s.heap) (frA fr)).get? b = some o := fun b o q => hideAll_get _ (RelS.allGet (X.inBase q) fun z => by
    have := X.off b z; rw [X.base b o q] at this; cases this) fun z => by have := (Fk.at z).1; rw [q] at this; cases this
  have X0 : RelS C (hideAll (RelS.all as s.heap) (frA fr)) as os h₀ := (X.wide.weaken hb fun _ _ q => of_hideAll _ q).ext hext
  have fk : (hideAll (RelS.all as s.heap) (frA fr)).get? s.heap.objs.size = none := by
    cases q : (hideAll (RelS.all as s.heap) (frA fr)).get? s.heap.objs.size with
    | none => rfl
    | some o => have := of_hideAll _ (of_hideAll _ q); rw [fresh] at this; cases this
  have Y : Rel C (hideAll (RelS.all as s.heap) (frA fr)) as ⟨zipL [6, 5] args, os⟩ (fmOf ⟨(defK 18).scope, true⟩ env) h₀ := by
    rw [fL]
    have hk65 : ∀ k ∈ [6, 5], k < 65 := by decide
    exact ⟨X0, fk, X.notIn fresh, ⟨_, hns, fun k v e => let ⟨a, b⟩ := lookup_zip [6, 5] args vals hx hk65 (by decide) k v e; ⟨hk65 k a, b⟩⟩, (by intro x ca q; cases q), (by intro x ca q; cases q), (by intro x ca q; cases q), (by intro _ x ca q; cases q), (by intro x y ca q; cases q)⟩
  have Ou : Outer (fun a => match s.heap.get? a with | some o => o.data | none => .plain) fr (hideAll (RelS.all as s.heap) (frA fr)) as (fmOf ⟨(defK 18).scope, true⟩ env) h₀ := by
    rw [fL]
    intro ev hev
    obtain ⟨g0, L, o, g1, g2, g3, g4, g5⟩ := Fk ev hev
    exact ⟨g0, L, g1, ⟨g3, (fun q => by rw [show L = s.heap.objs.size from q, fresh] at g4; cases g4), (by intro x ca q; cases q), hideAll_none _ (List.mem_filterMap.mpr ⟨ev, hev, g1⟩), o, hext _ _ g4⟩, o, hext _ _ g4, by show o.data = (match s.heap.get? L with | some o => o.data | none => Data.plain); rw [g4], g5⟩
  refine s18 O P P2 B D R' F eC eF (Around.frames_deeper hfr) q1 Y Ou fun as1 h1 t1 val p1 Y1 O1 hv => ?_
  have fin : ∀ a ∈ frA fr, a ∉ as1 ∧ ∀ o, s.heap.get? a = some o → ∃ o', h1.get? a = some o' ∧ o'.data = o.data := fun a ha => by
    obtain ⟨c1, o, c2, c3, c4⟩ := O1.mem ha
    refine ⟨c1.nas, fun o2 e2 => ⟨o, c2, ?_⟩⟩
    rw [c3]
    show (match s.heap.get? a with | some o => o.data | none => Data.plain) = _
    rw [e2]
  have S1 : RelS C (hideAll (RelS.all as s.heap) (frA fr)) as1 os' h1 := q2 ▸ Y1.S
  rcases q3 with rfl | ⟨rfl, rfl⟩
  · obtain ⟨val', rfl, hv'⟩ := hv
    exact K as1 h1 t1 val' p1 S1 hv' fin
  · have hv : val = .next := hv
    subst hv
    exact K as1 h1 t1 .none p1 S1 rfl fin
/-! the law's last statement -/
theorem last20 (O : Ok C) (P : Pg C) (P2 : Pg2 C) (B : Bn C) {Ad : Nat → Addr} (D : ∀ j ∈ fnIx, FnAt C (defK j) (Ad j)) {A : Around} {env : Env} {E : Value → Shared → Prop} {s : Shared} {hk : Heap} {as : List Addr} {st st' : St} {b : Bool} {Q : Flow → Shared → Prop}
    (R : Room A (n + 4)) (F : Frm ⟨(defK 20).scope, true⟩ env) (hcl : env.cells = []) (hfr : env.frame = some env.locals) (hA : A.frames = some [env]) (e : e20 st = some (b, st')) (X : Rel C hk as st (fmOf ⟨(defK 20).scope, true⟩ env) s.heap)
    (K : ∀ as' h' tk, as <+: as' → Rel C hk as' st' (fmOf ⟨(defK 20).scope, true⟩ env) h' → Q (.ret (.bool b)) { s with heap := h', toks := tk }) :
    wpAny (model prog C.w) A (execs ((defK 20).body.drop 8) env) Q E s := by
  refine ob_elim (x := cCall f18 (cSeq [cVar 6, cVar 5]) st) e fun a s1 q1 e => ob_elim e fun bb s2 q2 e => o1_elim e fun u q3 z => ?_
  cases z
  obtain ⟨args, s0, o0, q0, q01, rfl⟩ := cCall_eq q1
  obtain ⟨ob, pm, code, doc, ho, hdt, hcr⟩ := (D 18 (by decide)).fn
  refine wpAny_execs_cons (wpAny_Return_some (wpAny_Compare1 ?_ (by rfl)))
  refine wpAny_Call_Name_kw (nameG O X F (v := .ref (Ad 18)) (by decide +kernel) (show C.mg (defK 18).name = some (.ref (Ad 18)) from (D 18 (by decide)).mg) (by decide +kernel) ?_)
  refine Calls.callWith_function (o := ob) (fd := Calls.docDef (defK 18).name (defK 18).params (defK 18).body (defK 18).scope pm code doc) (args_of (by rfl) ?_)
  refine (show RefL C (n + 4) ⟨(defK 20).scope, true⟩ _ (cSeq [cVar 6, cVar 5]) from (RefL.cons (RefE.var (k := 6) (by decide +kernel)) (RefL.cons (RefE.var (k := 5) (by decide +kernel)) RefL.nil))) _ R F q0 X fun as1 h1 t1 xs p1 X1 hxs => ⟨⟨X1.S.inBase ho, hdt⟩, ?_⟩
  show wpAny _ _ (call (.ref (Ad 18)) ([] ++ xs) []) _ _ _
  rw [List.nil_append]
  have fA : frA [env] = [env.locals] := by
    show List.filterMap _ _ = _
    simp [hfr]
  have hkb : C.hb.get? env.locals = none := by
    cases z : C.hb.get? env.locals with
    | none => rfl
    | some o => have := X1.S.base _ _ z; rw [show hk.get? env.locals = none from X1.offL] at this; cases this
  have Fk : FrOk C [env] as1 h1 := by
    intro ev hev
    rcases List.mem_cons.mp hev with rfl | hev
    · obtain ⟨m, ⟨o, es, ep, e1, e2, _⟩, _⟩ := X1.ns
      exact ⟨by rw [F.eqv, F.kind]; decide, _, o, hfr, hkb, X1.notL, e1, fun vs q => by rw [e2] at q; cases q⟩
    · cases hev
  refine call18 (n := n) O P P2 B D R hA Fk q01 X1.S.wide hxs fun as2 h2 t2 val p2 S2 hv hf => ?_
  rw [fA] at S2 hf
  obtain ⟨nL, hL⟩ := hf env.locals (.head _)
  have all2 : RelS.all as1 h1 = RelS.all as1 h1 := rfl
  have X2 : Rel C hk as2 ⟨s0.loc, o0⟩ (fmOf ⟨(defK 20).scope, true⟩ env) h2 := by
    have S' : RelS C hk as2 o0 h2 := S2.weaken X1.S.base fun b o e => hideAll_get _ (RelS.allGet (X1.S.keep b o e) fun q => by rw [X1.S.off b q] at e; cases e) fun q => by
      rw [List.mem_singleton.mp q] at e; rw [show hk.get? env.locals = none from X1.offL] at e; cases e
    obtain ⟨m, ⟨o, es, ep, e1, e2, r⟩, hl⟩ := X1.ns
    refine ⟨S', X1.offL, nL, ⟨m, ?_, fun k v e => ?_⟩, ?_, ?_, ?_, ?_, ?_⟩
    · obtain ⟨o', e3, e4⟩ := hL o e1
      exact ⟨o', es, ep, e3, e4.trans e2, r⟩
    · obtain ⟨a, val, b, c⟩ := hl k v e
      unfold VarAt at b ⊢
      rw [show (fmOf ⟨(defK 20).scope, true⟩ env).cl = env.cells from rfl, hcl] at b ⊢
      exact ⟨a, val, b, c.mono p2⟩
    all_goals rw [show (fmOf ⟨(defK 20).scope, true⟩ env).cl = env.cells from rfl, hcl]
    · intro x ca q; cases q
    · intro x ca q; cases q
    · intro x ca q; cases q
    · intro _ x ca q; cases q
    · intro x y ca q; cases q
  refine (show RefE C (n + 4) ⟨(defK 20).scope, true⟩ _ (cListRange (cInt 1) (cCall f19 (cSeq [cVar 2]))) from (RefE.listRange O RefE.int (RefE.callF O (D _ (by decide)) (r19 O P B D) (RefL.cons (RefE.var (k := 2) (by decide +kernel)) RefL.nil) rfl (by decide +kernel) rfl) (by decide +kernel) (B.no _ (by decide +kernel)) (by decide +kernel) (B.no _ (by decide +kernel)))) R F q2 X2 fun as3 h3 t3 y p3 X3 hy => ?_
  exact listEq_ok R.handled (by have := R.units; omega) q3 X3 (hv.mono p3) hy fun h4 t4 X4 => K as3 h4 t4 (p1.trans (p2.trans p3)) X4
end
end Mine
end
end
section
set_option maxRecDepth 100000
set_option maxHeartbeats 0
set_option linter.unusedVariables false
set_option linter.unusedSectionVars false
set_option autoImplicit false
set_option genSizeOf false
set_option genInjectivity false
noncomputable section
namespace Mine
open PySem PySem.W PyProof.Rows
/-! the heaps: every script gives one of the lists -/
theorem cov_next {C : Cx} {k : Nat} {v : Value} {r : List Value} (hv : ∀ (j : Nat) (v' : Value), (v :: r)[j]? = some v' → ∃ t, v' = .int (C.h (k + j)) t) : ∀ (j : Nat) (v : Value), r[j]? = some v → ∃ t, v = .int (C.h (k + 1 + j)) t := fun j v e => by
  rw [Nat.add_right_comm]
  exact hv (j + 1) v e
theorem cov_big {h : Int} {m : Nat} (q : ¬ (h % 4).toNat < min m 4) : m ≤ 3 ∧ (m : Int) ≤ h % 4 := by
  have h0 : 0 ≤ h % 4 := Int.emod_nonneg _ (by decide)
  have h4 : h % 4 < 4 := Int.emod_lt_of_pos _ (by decide)
  omega
theorem cov_res (h : Int) : h % 4 = ((h % 4).toNat : Int) := (Int.toNat_of_nonneg (Int.emod_nonneg _ (by decide))).symm
theorem cover (C : Cx) (as : List Addr) (f : Nat) : ∀ (k m : Nat) (vals : List Value), vals.length = f → (∀ (j : Nat) (v : Value), vals[j]? = some v → ∃ t, v = .int (C.h (k + j)) t) → ∃ l ∈ heapsL f k m, RVs C as l vals := by
  induction f with
  | zero => intro k m vals hl hv; exact ⟨[], by simp [heapsL], by rw [List.length_eq_zero_iff.mp hl]; rfl⟩
  | succ f ih =>
    intro k m vals hl hv
    cases vals with
    | nil => cases hl
    | cons v r =>
      obtain ⟨t, rfl⟩ := hv 0 v rfl
      have hr2 := cov_next hv
      unfold heapsL
      by_cases q : (C.h k % 4).toNat < min m 4
      · obtain ⟨l, hm, hrv⟩ := ih (k + 1) (m - (C.h k % 4).toNat + 1) r (Nat.succ.inj hl) hr2
        exact ⟨AV.res (C.h k % 4).toNat k :: l, List.mem_append_left _ (List.mem_flatMap.mpr ⟨_, List.mem_range.mpr q, List.mem_map.mpr ⟨l, hm, rfl⟩⟩), _, _, rfl, ⟨t, rfl, cov_res _⟩, hrv⟩
      · obtain ⟨hm3, hm4⟩ := cov_big q
        obtain ⟨l, hm, hrv⟩ := ih (k + 1) 1 r (Nat.succ.inj hl) hr2
        rw [if_pos hm3]
        exact ⟨AV.big m k :: l, List.mem_append_right _ (List.mem_map.mpr ⟨l, hm, rfl⟩), _, _, rfl, ⟨t, rfl, hm4⟩, hrv⟩
noncomputable def onI (a : AV) (k : Option Unit) : Option Unit := alt (onAint a k) (onInt a fun _ => k)
theorem onI_elim {a : AV} {k : Option Unit} {r : Unit} {P : Prop} (e : onI a k = some r) (h : (a = .aint ∨ ∃ i, a = .int i) → k = some r → P) : P :=
  alt_elim e (fun e => onAint_elim e fun ha z => h (.inl ha) z) fun e => onInt_elim e fun i hi z => h (.inr ⟨i, hi⟩) z
theorem isI_is {C : Cx} {as : List Addr} {a : AV} {v : Value} (h : a = .aint ∨ ∃ i, a = .int i) (hv : RV C as a v) : ∃ i t, v = .int i t := by
  rcases h with rfl | ⟨i, rfl⟩
  · exact hv
  · exact ⟨i, hv⟩
noncomputable def allI : List AV → Option Unit
  | [] => some ()
  | a :: r => onI a (allI r)
theorem allI_is {C : Cx} {as : List Addr} {xs : List AV} : ∀ {vals : List Value}, allI xs = some () → RVs C as xs vals → ∃ hp : List Int, hp.length = xs.length ∧ ∀ (j : Nat) v, vals[j]? = some v → ∃ t, v = .int (hp.getD j 0) t := by
  induction xs with
  | nil => intro vals _ h; exact rvs0 h ⟨[], rfl, fun j v e => (nomatch e)⟩
  | cons a r ih =>
    intro vals e h
    refine onI_elim e fun ha z => ?_
    obtain ⟨v, t, e2, h1, h2⟩ := h
    obtain ⟨i, tk, rfl⟩ := isI_is ha h1
    obtain ⟨hp, h3, h4⟩ := ih z h2
    subst e2
    refine ⟨i :: hp, congrArg (· + 1) h3, fun j v e => ?_⟩
    cases j with
    | zero => cases e; exact ⟨tk, rfl⟩
    | succ j => exact h4 j v e
noncomputable def heapsAt (k : Nat) : Option Unit := ob (heapsIn k) fun v os => onRef v fun r => onList (os.get r) fun xs => bT (Nat.beq xs.length 6) (allI xs)
noncomputable def heapsOk (k : Nat) : Bool := (heapsAt k).isSome
theorem heaps_all : (List.range 64).all heapsOk = true := by decide +kernel
theorem execs_app {M : Model} {A : Around} {E : Value → Shared → Prop} {env : Env} : ∀ {xs ys : List Stmt} {s : Shared} {Q : Flow → Shared → Prop}, wpAny M A (execs xs env) (fun fl s' => match fl with | .next => wpAny M A (execs ys env) Q E s' | fl => Q fl s') E s → wpAny M A (execs (xs ++ ys) env) Q E s := by
  intro xs ys
  have key : ∀ xs : List Stmt, execs (xs ++ ys) env = execs xs env >>= fun f => match f with | .next => execs ys env | f => pure f := by
    intro xs
    induction xs with
    | nil => rfl
    | cons x r ih =>
      rw [List.cons_append, arm_execs_cons, arm_execs_cons, ih, bind_assoc]
      congr 1
      funext f
      cases f <;> rfl
  intro s Q h
  rw [key]
  refine wpAny_bind (wpAny_mono h (fun fl s' hh => ?_) fun _ _ x => x)
  cases fl with
  | next => exact hh
  | _ => exact wpAny_pure hh
theorem body20 : (defK 20).body = (defK 20).body.headD (.Pass ⟨0, 0, 0, 0⟩) :: (((defK 20).body.drop 1).take 7 ++ (defK 20).body.drop 8) := by
  have h : (defK 20).body.length = 9 := by decide +kernel
  cases q : (defK 20).body with
  | nil => rw [q] at h; cases h
  | cons x r =>
    show x :: r = x :: (r.take 7 ++ r.drop 7)
    rw [List.take_append_drop]
section
/-- the law, from its frame on -/
theorem lawBody {w : World} {h0 : Heap} {mg mb : Str → Option Value} (hlow : ∃ o, h0.get? cStatics = some o) (O : ∀ hp, Ok ⟨w, h0, mg, mb, hp, hlow⟩) (P : ∀ hp, Pg ⟨w, h0, mg, mb, hp, hlow⟩) (P2 : ∀ hp, Pg2 ⟨w, h0, mg, mb, hp, hlow⟩) (B : ∀ hp, Bn ⟨w, h0, mg, mb, hp, hlow⟩) {Ad : Nat → Addr} (D : ∀ hp, ∀ j ∈ fnIx, FnAt ⟨w, h0, mg, mb, hp, hlow⟩ (defK j) (Ad j))
    (W : ∀ cs : List Nat, cs.length = 6 → (∀ x ∈ cs, x < 3) → WOk cs) (runs : (heapsL 6 0 0).all law20 = true)
    {A : Around} {env : Env} {E : Value → Shared → Prop} {s : Shared} {sc : Addr} {items : Array Value} {Q : Flow → Shared → Prop} {m : Str → Option Value}
    (R : Room A 20) (F : Frm ⟨(defK 20).scope, true⟩ env) (hcl : env.cells = []) (hfr : env.frame = some env.locals) (hA : A.frames = some [env]) (hn : s.heap.Ns env.locals m) (hm : m (nm 0) = some (.ref sc)) (hkeep : ∀ b o, h0.get? b = some o → s.heap.get? b = some o) (hL : h0.get? env.locals = none)
    (hsc : h0.IsList sc items) (hsz : items.size ≤ 63) (hint : ∀ x ∈ items.toList, ∃ i t, x = .int i t)
    (K : ∀ h' tk, (∀ b o, h0.get? b = some o → h'.get? b = some o) → Q (.ret (.bool true)) { s with heap := h', toks := tk }) :
    wpAny (model prog w) A (execs (defK 20).body env) Q E s := by
  have hok : heapsOk items.size = true := List.all_eq_true.mp heaps_all _ (List.mem_range.mpr (by omega))
  obtain ⟨u, hok⟩ := Option.isSome_iff_exists.mp hok
  refine ob_elim hok fun v os qh e => onRef_elim e fun r hr e => onList_elim e fun xs qx e => bT_elim e fun ql qa => ?_
  subst hr
  have fm : fmOf ⟨(defK 20).scope, true⟩ env = ⟨env.locals, [], true⟩ := by unfold fmOf; rw [hcl]
  rw [body20]
  refine wpAny_execs_cons ?_
  have X0 : Rel ⟨w, h0, mg, mb, [], hlow⟩ h0 [] ⟨[(0, .par items.size)], ⟨0, .nil⟩⟩ (fmOf ⟨(defK 20).scope, true⟩ env) s.heap := by
    rw [fm]
    refine ⟨⟨fun _ _ e => e, hkeep, (by intro a h; cases h), List.nodup_nil, rfl, (by intro a h; cases h), (fun i o e => by cases e), (fun i d i1 i2 i3 e => by cases e)⟩, hL, (by intro h; cases h), ⟨m, hn, fun k v e => ?_⟩, (by intro x ca q; cases q), (by intro x ca q; cases q), (by intro x ca q; cases q), (by intro _ x ca q; cases q), (by intro x y ca q; cases q)⟩
    rw [lk_cons] at e
    by_cases q : k = 0
    · subst q
      cases e
      exact ⟨by decide, _, hm, sc, items, rfl, hsc, rfl, hint⟩
    · rw [if_neg q] at e; cases e
  have q20 : b20a ⟨[(0, .par items.size)], ⟨0, .nil⟩⟩ = some (.next, ⟨bnd 1 (.ref r) [(0, .par items.size)], os⟩) := by
    have q : f10 [.par items.size] ⟨0, .nil⟩ = some (.ref r, os) := qh
    show ob (ob (f10 [.par items.size] ⟨0, .nil⟩) fun v o => mkS v ⟨[(0, .par items.size)], ⟨0, .nil⟩⟩ o) (fun v s1 => o1 (aName 1 v s1) fun s2 => some (AF.next, s2)) = _
    rw [q]
    show o1 (aName 1 (AV.ref r) ⟨[(0, .par items.size)], os⟩) (fun s2 => some (AF.next, s2)) = _
    rw [aName_eq]
    rfl
  refine s20a (n := 19) (O []) (P []) (P2 []) (B []) (D []) R F q20 X0 fun as1 h1 t1 fl p1 X1 hfl => ?_
  have hfl : fl = .next := hfl
  subst hfl
  show wpAny _ _ (execs _ env) _ _ _
  obtain ⟨m1, hn1, hl1⟩ := X1.ns
  obtain ⟨_, val, hval, hrv⟩ := hl1 1 (.ref r) (by rw [lk_bnd, if_pos rfl])
  obtain ⟨al, its, cap, rfl, hal, hil, hir⟩ := X1.listAt qx hrv
  obtain ⟨hp, hpl, hpv⟩ := allI_is qa hir
  have hp6 : hp.length = 6 := hpl.trans (Nat.eq_of_beq_eq_true ql)
  obtain ⟨l, hlm, hlr⟩ := cover ⟨w, h0, mg, mb, hp, hlow⟩ [al] 6 0 0 its.toList (hir.length.trans (Nat.eq_of_beq_eq_true ql)) fun j v e => by
    rw [Nat.zero_add]
    exact hpv j v e
  have hrun := List.all_eq_true.mp runs l hlm
  obtain ⟨u, hrun⟩ := Option.isSome_iff_exists.mp hrun
  refine o1_elim hrun fun os1 qo e => ob_elim e fun fl0 s2 qb e => isNext_elim e fun hn e => ob_elim e fun b s3 qe e => bT_elim e fun hb _ => ?_
  subst hn hb
  have offal : h0.get? al = none := X1.S.off al (List.mem_of_getElem? hal)
  have X2 : Rel ⟨w, h0, mg, mb, hp, hlow⟩ h0 [al] ⟨[(1, .ref 0)], os1⟩ (fmOf ⟨(defK 20).scope, true⟩ env) h1 := by
    have hnal : env.locals ∉ [al] := fun q => X1.notL (by rw [show (fmOf ⟨(defK 20).scope, true⟩ env).L = env.locals from rfl, List.mem_singleton.mp q]; exact List.mem_of_getElem? hal)
    have S2 : RelS ⟨w, h0, mg, mb, hp, hlow⟩ h0 [al] os1 h1 := by
      refine RelS.ofAll qo (fun _ _ e => e) (fun b o e => X1.S.keep b o e) rfl (fun a ha => by rw [List.mem_singleton.mp ha]; exact offal) (by simp) (fun a ha => by rw [List.mem_singleton.mp ha]; exact ⟨_, hil⟩) (fun i o e => ?_) fun i d j1 j2 j3 e => ?_
      · match i, e with
        | 0, e => cases e; exact ⟨al, rfl, its, cap, hil, hlr⟩
        | _ + 1, e => cases e
      · match i, e with
        | 0, e => cases e
        | _ + 1, e => cases e
    have hval : m1 (nm 1) = some (.ref al) := by
      unfold VarAt at hval
      rw [fm] at hval
      exact hval
    rw [fm] at hn1 ⊢
    refine ⟨S2, hL, hnal, ⟨m1, hn1, fun k v e => ?_⟩, (by intro x ca q; cases q), (by intro x ca q; cases q), (by intro x ca q; cases q), (by intro _ x ca q; cases q), (by intro x y ca q; cases q)⟩
    rw [lk_cons] at e
    by_cases q : k = 1
    · subst q
      cases e
      exact ⟨by decide, _, hval, al, rfl, rfl⟩
    · rw [if_neg q] at e; cases e
  have hlen : (Cx.cs ⟨w, h0, mg, mb, hp, hlow⟩).length = 6 := (List.length_map _).trans hp6
  have hlt : ∀ x ∈ Cx.cs ⟨w, h0, mg, mb, hp, hlow⟩, x < 3 := by
    intro x hx
    obtain ⟨y, _, rfl⟩ := List.mem_map.mp hx
    have a1 : 0 ≤ y / 4 % 3 := Int.emod_nonneg _ (by decide)
    have a2 : y / 4 % 3 < 3 := Int.emod_lt_of_pos _ (by decide)
    omega
  refine execs_app ?_
  refine s20b (n := 8) (O _) (P _) (P2 _) (B _) (D _) (csOk_of hlen hlt) (W _ hlen hlt) R F qb X2 fun as3 h3 t3' fl p3 X3 hfl => ?_
  have hfl : fl = .next := hfl
  subst hfl
  exact last20 (n := 16) (O _) (P _) (P2 _) (B _) (D _) R F hcl hfr hA qe X3 fun as4 h4 t4' p4 X4 => K h4 t4' fun b o e => X4.S.keep b o e
end
end Mine
end
end
section
set_option genSizeOf false
set_option genInjectivity false
set_option maxRecDepth 100000
set_option maxHeartbeats 0
set_option linter.unusedVariables false
noncomputable section
namespace Mine
open PySem PySem.W PyProof.Rows
theorem g_mre (p : Params) : nsIn (hd.heap_1 p) mainGlobals (Str.ofString "_twin_re_1") = some (some (.ref 62)) := by kernel_rfl
theorem g_v4 (p : Params) : nsIn (hd.heap_1 p) mainGlobals (Str.ofString "IPV4_RE") = some (some (.ref 50)) := by kernel_rfl
theorem g_ws (p : Params) : nsIn (hd.heap_1 p) mainGlobals (Str.ofString "Whitespace") = some (some (.ref 163)) := by kernel_rfl
theorem g_rr (p : Params) : nsIn (hd.heap_1 p) mainGlobals (Str.ofString "SMTPRecipientsRefused") = some (some (.ref 92)) := by kernel_rfl
theorem g_bn (p : Params) : ∀ x ∈ bnL, nsIn (hd.heap_1 p) mainGlobals x = some none := by
  intro x hx
  simp only [bnL, List.mem_cons, List.not_mem_nil, or_false] at hx
  rcases hx with rfl | rfl | rfl | rfl | rfl | rfl | rfl | rfl | rfl | rfl | rfl <;> kernel_rfl
theorem ints_all : ∀ {vs : List Value} {ns : List Int}, IntsAre vs ns → ∀ x ∈ vs, ∃ i t, x = .int i t
  | _, _, .nil => fun x hx => by cases hx
  | _, _, .cons _ _ h => fun x hx => by
    rcases List.mem_cons.mp hx with rfl | hx
    · exact ⟨_, _, rfl⟩
    · exact ints_all h x hx
theorem ints_len : ∀ {vs : List Value} {ns : List Int}, IntsAre vs ns → vs.length = ns.length
  | _, _, .nil => rfl
  | _, _, .cons _ _ h => by rw [List.length_cons, List.length_cons, ints_len h]
theorem law_run (W : ∀ cs : List Nat, cs.length = 6 → (∀ x ∈ cs, x < 3) → WOk cs) (runs : (heapsL 6 0 0).all law20 = true)
    {w : World} {s₁ : Shared} {mg mb : Str → Option Value} {loose : List Str} {mean : ExcName → Option Value} {h₁ : Heap} {fa l : Addr} {cd : Value} {vs : List Value} {ns : List Int} {tk : Nat} {m : Str → Option Value} {E : Value → Shared → Prop}
    (KX : (hd.heap_1 w.params).In s₁.heap) (T : Top vw loose mean mg mb s₁.heap) (hL : s₁.heap.IsList l vs.toArray) (hI : IntsAre vs ns) (hc : ¬ ((63 : Nat) : Int) < (ns.length : Int)) (F : Fr s₁.heap s₁.heap.objs.size h₁ m) (hm : m (nm 0) = some (.ref l)) :
    wpAny (model prog w) (callerA.deeper (envOf (Str.ofString "law") (defK 20).scope s₁.heap.objs.size fa cd)) (execs (defK 20).body (envOf (Str.ofString "law") (defK 20).scope s₁.heap.objs.size fa cd))
      (fun fl s' => fl = .ret (.bool true) ∧ (∀ b o, s₁.heap.get? b = some o → s'.heap.get? b = some o) ∧ s'.os = s₁.os ∧ s'.gens = s₁.gens) E { s₁ with heap := h₁, toks := tk } := by
  have hlow : ∃ o, s₁.heap.get? cStatics = some o := by
    obtain ⟨mc, ⟨o, es, ep, e, _⟩, _⟩ := T.nolimit
    exact ⟨o, e⟩
  have hfn : ∀ j, ∃ a, j ∈ fnIx → FnAt ⟨w, s₁.heap, mg, mb, [], hlow⟩ (defK j) a := by
    intro j
    by_cases q : j ∈ fnIx
    · obtain ⟨k, hk⟩ := rec_of j q
      obtain ⟨a, o, pm, code, doc, e1, e2, e3, e4⟩ := T.fn _ (List.mem_of_getElem? hk)
      exact ⟨a, fun _ => ⟨e1, o, pm, code, doc, e2, e3, e4⟩⟩
    · exact ⟨0, fun z => absurd z q⟩
  obtain ⟨Ad, hAd⟩ := Classical.axiomOfChoice hfn
  have hvs : vs.length ≤ 63 := by
    rw [ints_len hI]
    omega
  refine lawBody (w := w) (h0 := s₁.heap) (mg := mg) (mb := mb) (hlow := hlow) (fun hp => ⟨T.g, T.b, T.nolimit, T.builtins⟩) (fun hp => ⟨KX, mg_of KX T.g (g_mre _)⟩) (fun hp => ⟨mg_of KX T.g (g_v4 _), mg_of KX T.g (g_ws _), mg_of KX T.g (g_rr _)⟩)
    (fun hp => ⟨fun x hx => ns_none_of KX T.g (g_bn _ x hx)⟩) (Ad := Ad) (fun hp j hj => ⟨(hAd j hj).mg, (hAd j hj).fn⟩) W runs (m := m) (sc := l) (items := vs.toArray)
    ⟨rfl, (show (1 + claimMargin) + 1 + 20 < recursionLimit by decide +kernel), (show 4 + 3 + 20 * 20 + 200 < cLine by decide +kernel)⟩ ?_ rfl rfl rfl F.ns hm F.keep (fresh_size _) hL (by simpa using hvs) (by simpa using ints_all hI) fun h' tk' hk => ⟨rfl, hk, rfl, rfl⟩
  have hcell : ∀ x ∈ (defK 20).scope.names, x.2 ≠ .cell := by decide +kernel
  exact ⟨rfl, (show (defK 20).scope.kind = .function by decide +kernel), List.nodup_nil, fun _ _ => rfl, fun x q => absurd rfl (hcell _ (mem_of_lookup q)), rfl, rfl⟩
end Mine
end
end
section
set_option genSizeOf false
set_option genInjectivity false
set_option maxRecDepth 100000
set_option maxHeartbeats 0
set_option linter.unusedVariables false
namespace Mine
open PySem PySem.W PyProof.Rows
theorem law_all (W : ∀ cs : List Nat, cs.length = 6 → (∀ x ∈ cs, x < 3) → WOk cs) (runs : (heapsL 6 0 0).all law20 = true) : PySem.Challenge.rw_xe0031_01.Holds := hd (by
  k_go0
  rename Top _ _ _ _ _ _ => T
  rename Frag.In _ _ => KX
  rename Heap.IsList _ _ _ => hL
  rename IntsAre _ _ => hI
  rename Fr _ _ _ _ => F
  rename ¬ _ < _ => hc
  rename _ = #[] => hg
  refine wpAny_mono (law_run W runs KX T hL hI hc F rfl) (fun fl s' hh => ?_) (fun e s' hh => False.elim hh)
  obtain ⟨rfl, hk, ho, hge⟩ := hh
  exact ⟨.inl ⟨.bool true, .bool true, [], rfl, fun _ => rfl, .bool true, by wrow_post, fun _ => ⟨List.nodup_nil, nofun⟩⟩, hk, ho, hge.trans hg⟩)
end Mine
end
section
set_option maxRecDepth 100000
set_option maxHeartbeats 0
set_option autoImplicit false
set_option genSizeOf false
set_option genInjectivity false
noncomputable section
namespace Mine
open PySem PySem.W PyProof.Rows
/-! the 124 runs -/
theorem lw0 : (((heapsL 6 0 0).drop (2 * 0)).take 2).all law20 = true := by decide +kernel
theorem lw1 : (((heapsL 6 0 0).drop (2 * 1)).take 2).all law20 = true := by decide +kernel
theorem lw2 : (((heapsL 6 0 0).drop (2 * 2)).take 2).all law20 = true := by decide +kernel
theorem lw3 : (((heapsL 6 0 0).drop (2 * 3)).take 2).all law20 = true := by decide +kernel
theorem lw4 : (((heapsL 6 0 0).drop (2 * 4)).take 2).all law20 = true := by decide +kernel
theorem lw5 : (((heapsL 6 0 0).drop (2 * 5)).take 2).all law20 = true := by decide +kernel
theorem lw6 : (((heapsL 6 0 0).drop (2 * 6)).take 2).all law20 = true := by decide +kernel
theorem lw7 : (((heapsL 6 0 0).drop (2 * 7)).take 2).all law20 = true := by decide +kernel
theorem lw8 : (((heapsL 6 0 0).drop (2 * 8)).take 2).all law20 = true := by decide +kernel
theorem lw9 : (((heapsL 6 0 0).drop (2 * 9)).take 2).all law20 = true := by decide +kernel
theorem lw10 : (((heapsL 6 0 0).drop (2 * 10)).take 2).all law20 = true := by decide +kernel
theorem lw11 : (((heapsL 6 0 0).drop (2 * 11)).take 2).all law20 = true := by decide +kernel
theorem lw12 : (((heapsL 6 0 0).drop (2 * 12)).take 2).all law20 = true := by decide +kernel
theorem lw13 : (((heapsL 6 0 0).drop (2 * 13)).take 2).all law20 = true := by decide +kernel
theorem lw14 : (((heapsL 6 0 0).drop (2 * 14)).take 2).all law20 = true := by decide +kernel
theorem lw15 : (((heapsL 6 0 0).drop (2 * 15)).take 2).all law20 = true := by decide +kernel
theorem lw16 : (((heapsL 6 0 0).drop (2 * 16)).take 2).all law20 = true := by decide +kernel
theorem lw17 : (((heapsL 6 0 0).drop (2 * 17)).take 2).all law20 = true := by decide +kernel
theorem lw18 : (((heapsL 6 0 0).drop (2 * 18)).take 2).all law20 = true := by decide +kernel
theorem lw19 : (((heapsL 6 0 0).drop (2 * 19)).take 2).all law20 = true := by decide +kernel
theorem lw20 : (((heapsL 6 0 0).drop (2 * 20)).take 2).all law20 = true := by decide +kernel
theorem lw21 : (((heapsL 6 0 0).drop (2 * 21)).take 2).all law20 = true := by decide +kernel
theorem lw22 : (((heapsL 6 0 0).drop (2 * 22)).take 2).all law20 = true := by decide +kernel
theorem lw23 : (((heapsL 6 0 0).drop (2 * 23)).take 2).all law20 = true := by decide +kernel
theorem lw24 : (((heapsL 6 0 0).drop (2 * 24)).take 2).all law20 = true := by decide +kernel
theorem lw25 : (((heapsL 6 0 0).drop (2 * 25)).take 2).all law20 = true := by decide +kernel
theorem lw26 : (((heapsL 6 0 0).drop (2 * 26)).take 2).all law20 = true := by decide +kernel
theorem lw27 : (((heapsL 6 0 0).drop (2 * 27)).take 2).all law20 = true := by decide +kernel
theorem lw28 : (((heapsL 6 0 0).drop (2 * 28)).take 2).all law20 = true := by decide +kernel
theorem lw29 : (((heapsL 6 0 0).drop (2 * 29)).take 2).all law20 = true := by decide +kernel
theorem lw30 : (((heapsL 6 0 0).drop (2 * 30)).take 2).all law20 = true := by decide +kernel
theorem lw31 : (((heapsL 6 0 0).drop (2 * 31)).take 2).all law20 = true := by decide +kernel
theorem lw32 : (((heapsL 6 0 0).drop (2 * 32)).take 2).all law20 = true := by decide +kernel
theorem lw33 : (((heapsL 6 0 0).drop (2 * 33)).take 2).all law20 = true := by decide +kernel
theorem lw34 : (((heapsL 6 0 0).drop (2 * 34)).take 2).all law20 = true := by decide +kernel
theorem lw35 : (((heapsL 6 0 0).drop (2 * 35)).take 2).all law20 = true := by decide +kernel
theorem lw36 : (((heapsL 6 0 0).drop (2 * 36)).take 2).all law20 = true := by decide +kernel
theorem lw37 : (((heapsL 6 0 0).drop (2 * 37)).take 2).all law20 = true := by decide +kernel
theorem lw38 : (((heapsL 6 0 0).drop (2 * 38)).take 2).all law20 = true := by decide +kernel
theorem lw39 : (((heapsL 6 0 0).drop (2 * 39)).take 2).all law20 = true := by decide +kernel
theorem lw40 : (((heapsL 6 0 0).drop (2 * 40)).take 2).all law20 = true := by decide +kernel
theorem lw41 : (((heapsL 6 0 0).drop (2 * 41)).take 2).all law20 = true := by decide +kernel
theorem lw42 : (((heapsL 6 0 0).drop (2 * 42)).take 2).all law20 = true := by decide +kernel
theorem lw43 : (((heapsL 6 0 0).drop (2 * 43)).take 2).all law20 = true := by decide +kernel
theorem lw44 : (((heapsL 6 0 0).drop (2 * 44)).take 2).all law20 = true := by decide +kernel
theorem lw45 : (((heapsL 6 0 0).drop (2 * 45)).take 2).all law20 = true := by decide +kernel
theorem lw46 : (((heapsL 6 0 0).drop (2 * 46)).take 2).all law20 = true := by decide +kernel
theorem lw47 : (((heapsL 6 0 0).drop (2 * 47)).take 2).all law20 = true := by decide +kernel
theorem lw48 : (((heapsL 6 0 0).drop (2 * 48)).take 2).all law20 = true := by decide +kernel
theorem lw49 : (((heapsL 6 0 0).drop (2 * 49)).take 2).all law20 = true := by decide +kernel
theorem lw50 : (((heapsL 6 0 0).drop (2 * 50)).take 2).all law20 = true := by decide +kernel
theorem lw51 : (((heapsL 6 0 0).drop (2 * 51)).take 2).all law20 = true := by decide +kernel
theorem lw52 : (((heapsL 6 0 0).drop (2 * 52)).take 2).all law20 = true := by decide +kernel
theorem lw53 : (((heapsL 6 0 0).drop (2 * 53)).take 2).all law20 = true := by decide +kernel
theorem lw54 : (((heapsL 6 0 0).drop (2 * 54)).take 2).all law20 = true := by decide +kernel
theorem lw55 : (((heapsL 6 0 0).drop (2 * 55)).take 2).all law20 = true := by decide +kernel
theorem lw56 : (((heapsL 6 0 0).drop (2 * 56)).take 2).all law20 = true := by decide +kernel
theorem lw57 : (((heapsL 6 0 0).drop (2 * 57)).take 2).all law20 = true := by decide +kernel
theorem lw58 : (((heapsL 6 0 0).drop (2 * 58)).take 2).all law20 = true := by decide +kernel
theorem lw59 : (((heapsL 6 0 0).drop (2 * 59)).take 2).all law20 = true := by decide +kernel
theorem lw60 : (((heapsL 6 0 0).drop (2 * 60)).take 2).all law20 = true := by decide +kernel
theorem lw61 : (((heapsL 6 0 0).drop (2 * 61)).take 2).all law20 = true := by decide +kernel
theorem heapsL_len : (heapsL 6 0 0).length ≤ 2 * 62 := by decide +kernel
theorem runs : (heapsL 6 0 0).all law20 = true := all_chunks _ 2 62 _ heapsL_len fun i hi => by
  match i, hi with
  | 0, _ => exact lw0
  | 1, _ => exact lw1
  | 2, _ => exact lw2
  | 3, _ => exact lw3
  | 4, _ => exact lw4
  | 5, _ => exact lw5
  | 6, _ => exact lw6
  | 7, _ => exact lw7
  | 8, _ => exact lw8
  | 9, _ => exact lw9
  | 10, _ => exact lw10
  | 11, _ => exact lw11
  | 12, _ => exact lw12
  | 13, _ => exact lw13
  | 14, _ => exact lw14
  | 15, _ => exact lw15
  | 16, _ => exact lw16
  | 17, _ => exact lw17
  | 18, _ => exact lw18
  | 19, _ => exact lw19
  | 20, _ => exact lw20
  | 21, _ => exact lw21
  | 22, _ => exact lw22
  | 23, _ => exact lw23
  | 24, _ => exact lw24
  | 25, _ => exact lw25
  | 26, _ => exact lw26
  | 27, _ => exact lw27
  | 28, _ => exact lw28
  | 29, _ => exact lw29
  | 30, _ => exact lw30
  | 31, _ => exact lw31
  | 32, _ => exact lw32
  | 33, _ => exact lw33
  | 34, _ => exact lw34
  | 35, _ => exact lw35
  | 36, _ => exact lw36
  | 37, _ => exact lw37
  | 38, _ => exact lw38
  | 39, _ => exact lw39
  | 40, _ => exact lw40
  | 41, _ => exact lw41
  | 42, _ => exact lw42
  | 43, _ => exact lw43
  | 44, _ => exact lw44
  | 45, _ => exact lw45
  | 46, _ => exact lw46
  | 47, _ => exact lw47
  | 48, _ => exact lw48
  | 49, _ => exact lw49
  | 50, _ => exact lw50
  | 51, _ => exact lw51
  | 52, _ => exact lw52
  | 53, _ => exact lw53
  | 54, _ => exact lw54
  | 55, _ => exact lw55
  | 56, _ => exact lw56
  | 57, _ => exact lw57
  | 58, _ => exact lw58
  | 59, _ => exact lw59
  | 60, _ => exact lw60
  | 61, _ => exact lw61
  | k + 62, h => omega
end Mine
end
end
theorem PySem.Challenge.cw_xe0031_01_holds : PySem.Challenge.rw_xe0031_01.Holds := by
  exact Mine.law_all (fun cs h1 h2 => Mine.wOk_of h1 h2) Mine.runs
