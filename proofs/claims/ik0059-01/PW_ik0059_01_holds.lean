import PyProof.Rows.All
import Wide.All
import OpenK.AllK
import Wide.FinOn
import KE.KSuperObj
import OpenK.XGo
import PySem.Challenge.RW_ik0059_01
set_option Elab.async false
set_option linter.all false
open PySem PySem.Spec PySem.Calls PyProof.Rows PySem.W
set_option maxRecDepth 100000
set_option genSizeOf false
set_option genInjectivity false
set_option bootstrap.genMatcherCode false
set_option tactic.hygienic false
set_option maxHeartbeats 0
namespace Mine
abbrev VP := Value -> Shared -> Prop
theorem w0z : type_of% @wpAny_bind := @wpAny_bind
theorem w1z : type_of% @wpAny_of_eq := @wpAny_of_eq
theorem w2z : type_of% @wpAny_pure := @wpAny_pure
theorem w3z : type_of% @wpAny_mono := @wpAny_mono
theorem w4z {α : Type} {a b : α} (h : some a = some b) : a = b := Option.some.inj h
theorem w5z : type_of% @Nat.le_of_ble_eq_true := @Nat.le_of_ble_eq_true
theorem w6z : type_of% @Heap.get?_push_of_some := @Heap.get?_push_of_some
theorem w7z {α : Type} {l : List α} {i : Nat} {a : α} (h : l[i]? = some a) : a ∈ l := List.mem_of_getElem? h
theorem w8z : type_of% @wpAny_holding := @wpAny_holding
theorem w9z {α : Type} (y : α) {a : α} {l : List α} (h : a ∈ l) : a ∈ y :: l := List.mem_cons_of_mem y h
structure Vl where
 x0 : Int
 x1 : Int
 v0 : Int
 v1 : Int
structure Vl.Ok (ν : Vl) : Prop where
 a0 : 0 <= ν.v0
 b0 : ν.v0 < 256
 a1 : 0 <= ν.v1
 b1 : ν.v1 < 256
inductive SI where
 | lin (c a b : Int)
 | quo (w : Bool) (d : Nat)
noncomputable def SI.val (ν : Vl) : SI -> Int
 | .lin c a b => c + a * ν.v0 + b * ν.v1
 | .quo w d => Int.fdiv (if w then ν.x1 else ν.x0) d
inductive AV where
 | none
 | bool (b : Bool)
 | int (i : SI)
 | str (s : List Nat)
 | bytes (b : List SI)
 | stat (v : Value)
 | ref (i : Nat)
inductive AO where
 | list (xs : List AV)
 | tuple (xs : List AV)
 | dict (es : List (List Nat × AV)) (ep : Nat)
 | set (xs : List (List Nat))
 | cell (v : Option AV)
 | inst (c d : Nat)
 | node (C : Nat) (d : Nat) (sl : List (Option AV))
 | liter (l i : Nat)
 | fn (k : Nat) (cells : List Nat) (d : Option Nat) (c : Nat)
 | tab (ps : List (Nat × Nat × Nat))
 | code (k : Nat)
 | bound (i : Nat)
inductive Tr where
 | nil
 | node (v : Option AO) (l r : Tr)
/- by the recursors themselves: the kernel runs them -/
noncomputable abbrev bif' {α : Type} (b : Bool) (x y : α) : α := Bool.rec (motive := fun _ => α) y x b
noncomputable def Tr.get (t : Tr) : Nat -> Option AO := Tr.rec (motive := fun _ => Nat -> Option AO) (fun _ => none)
 (fun v _ _ gl gr i => bif' (Nat.beq i 0) v (bif' (Nat.beq (Nat.mod i 2) 1) (gl (Nat.div i 2)) (gr (Nat.sub (Nat.div i 2) 1)))) t
noncomputable def Tr.put (v : AO) (f : Nat) : Tr -> Nat -> Tr := Nat.rec (motive := fun _ => Tr -> Nat -> Tr) (fun t _ => t) (fun _ ih t => Tr.rec (motive := fun _ => Nat -> Tr)
 (fun i => bif' (Nat.beq i 0) (.node (some v) .nil .nil) (bif' (Nat.beq (Nat.mod i 2) 1) (.node none (ih .nil (Nat.div i 2)) .nil) (.node none .nil (ih .nil (Nat.sub (Nat.div i 2) 1)))))
 (fun w l r _ _ i => bif' (Nat.beq i 0) (.node (some v) l r) (bif' (Nat.beq (Nat.mod i 2) 1) (.node w (ih l (Nat.div i 2)) r) (.node w l (ih r (Nat.sub (Nat.div i 2) 1))))) t) f
theorem qk6 (i j : Nat) : Nat.beq i j = decide (i = j) := by
 induction h : Nat.beq i j with
 | true => exact (decide_eq_true (Nat.eq_of_beq_eq_true h)).symm
 | false => exact (decide_eq_false (Nat.ne_of_beq_eq_false h)).symm
theorem jf2 {α : Type} {p : Prop} [Decidable p] (x y : α) : bif' (decide p) x y = if p then x else y := by
 by_cases h : p
 . rw [if_pos h, decide_eq_true h]
 . rw [if_neg h, decide_eq_false h]
theorem xg8 {α : Type} (i j : Nat) (x y : α) : bif' (Nat.beq i j) x y = if i = j then x else y := by rw [qk6, jf2]
theorem Tr.get_node (v : Option AO) (l r : Tr) (i : Nat) : (Tr.node v l r).get i = if i = 0 then v else if i % 2 = 1 then l.get (i / 2) else r.get (i / 2 - 1) :=
 (xg8 ..).trans (congrArg (ite (i = 0) v) (xg8 ..))
theorem Tr.put_node (v : AO) (f : Nat) (w : Option AO) (l r : Tr) (i : Nat) : Tr.put v (f + 1) (.node w l r) i = if i = 0 then .node (some v) l r else if i % 2 = 1 then .node w (Tr.put v f l (i / 2)) r else .node w l (Tr.put v f r (i / 2 - 1)) :=
 (xg8 ..).trans (congrArg (ite (i = 0) (Tr.node (some v) l r)) (xg8 ..))
theorem Tr.put_nil (v : AO) (f : Nat) (i : Nat) : Tr.put v (f + 1) .nil i = Tr.put v (f + 1) (.node none .nil .nil) i := rfl
theorem xo6 (i : Nat) : i = 0 \/ (∃ k, i = 2 * k + 1) \/ ∃ k, i = 2 * k + 2 := match i with
 | 0 => .inl rfl
 | i + 1 => .inr (match Nat.mod_two_eq_zero_or_one i with
  | .inl h => .inl ⟨i / 2, congrArg (· + 1) (Nat.mul_div_cancel' (Nat.dvd_of_mod_eq_zero h)).symm⟩
  | .inr h => .inr ⟨i / 2, congrArg (· + 1) ((congrArg (2 * (i / 2) + ·) h.symm).trans (Nat.div_add_mod i 2)).symm⟩)
theorem qv4 (k : Nat) : (2 * k + 1) % 2 = 1 := Nat.mul_add_mod 2 k 1
theorem xp4 (k : Nat) : (2 * k + 1) / 2 = k := Nat.mul_add_div (by decide) k 1
theorem qq2 (k : Nat) : (2 * k + 2) % 2 ≠ 1 := fun h => absurd ((Nat.mul_add_mod 2 k 2).symm.trans h) (by decide)
theorem xf8 (k : Nat) : (2 * k + 2) / 2 - 1 = k := congrArg (· - 1) (Nat.mul_div_cancel_left (k + 1) (by decide))
theorem xt1 {j k : Nat} : 2 * j + 1 ≠ 2 * k + 2 := fun h => qq2 k (h ▸ qv4 j)
theorem zu0 {j k : Nat} : 2 * j + 1 = 2 * k + 1 ↔ j = k := ⟨fun h => Nat.eq_of_mul_eq_mul_left (by decide) (Nat.succ.inj h), fun h => h ▸ rfl⟩
theorem zn9 {j k : Nat} : 2 * j + 2 = 2 * k + 2 ↔ j = k := ⟨fun h => Nat.eq_of_mul_eq_mul_left (by decide) (Nat.succ.inj (Nat.succ.inj h)), fun h => h ▸ rfl⟩
theorem Tr.get_odd (v : Option AO) (l r : Tr) (k : Nat) : (Tr.node v l r).get (2 * k + 1) = l.get k := by rw [Tr.get_node, if_neg (Nat.succ_ne_zero _), if_pos (qv4 k), xp4]
theorem Tr.get_even (v : Option AO) (l r : Tr) (k : Nat) : (Tr.node v l r).get (2 * k + 2) = r.get k := by rw [Tr.get_node, if_neg (Nat.succ_ne_zero _), if_neg (qq2 k), xf8]
theorem Tr.get_upd {x w : Option AO} {l r l' r' : Tr} {i j : Nat} (hl : i % 2 = 1 -> ∀ j, l'.get j = if j = i / 2 then x else l.get j) (hr : i ≠ 0 -> ¬ i % 2 = 1 -> ∀ j, r'.get j = if j = i / 2 - 1 then x else r.get j) :
 (if i = 0 then Tr.node x l r else if i % 2 = 1 then .node w l' r else .node w l r').get j = if j = i then x else (Tr.node w l r).get j := by
 obtain rfl | ⟨k, rfl⟩ | ⟨k, rfl⟩ := xo6 i
 . rw [if_pos rfl]
   obtain rfl | ⟨m, rfl⟩ | ⟨m, rfl⟩ := xo6 j
   . rw [if_pos rfl]; rfl
   . rw [if_neg (Nat.succ_ne_zero _), get_odd, get_odd]
   . rw [if_neg (Nat.succ_ne_zero _), get_even, get_even]
 . rw [if_neg (Nat.succ_ne_zero _), if_pos (qv4 k)]
   obtain rfl | ⟨m, rfl⟩ | ⟨m, rfl⟩ := xo6 j
   . rw [if_neg (Nat.succ_ne_zero _).symm]; rfl
   . rw [get_odd, get_odd, hl (qv4 k), xp4]
     exact (ite_congr (propext zu0) (fun _ => rfl) fun _ => rfl).symm
   . rw [if_neg xt1.symm, get_even, get_even]
 . rw [if_neg (Nat.succ_ne_zero _), if_neg (qq2 k)]
   obtain rfl | ⟨m, rfl⟩ | ⟨m, rfl⟩ := xo6 j
   . rw [if_neg (Nat.succ_ne_zero _).symm]; rfl
   . rw [if_neg xt1, get_odd, get_odd]
   . rw [get_even, get_even, hr (Nat.succ_ne_zero _) (qq2 k), xf8]
     exact (ite_congr (propext zn9) (fun _ => rfl) fun _ => rfl).symm
theorem zf8 {k f : Nat} (h : 2 * (k + 1) < 2 ^ (f + 1)) : k + 1 < 2 ^ f := Nat.lt_of_mul_lt_mul_left (a := 2) (Nat.lt_of_lt_of_eq h (Nat.mul_comm ..))
theorem xf1 {i f : Nat} (h : i + 1 < 2 ^ (f + 1)) (h0 : i ≠ 0) (h1 : ¬ i % 2 = 1) : i / 2 - 1 + 1 < 2 ^ f := by
 obtain rfl | ⟨k, rfl⟩ | ⟨k, rfl⟩ := xo6 i
 . exact (h0 rfl).elim
 . exact (h1 (qv4 k)).elim
 . rw [xf8]; exact zf8 (Nat.lt_of_succ_lt h)
theorem xf0 {i f : Nat} (h : i + 1 < 2 ^ (f + 1)) (h1 : i % 2 = 1) : i / 2 + 1 < 2 ^ f := by
 obtain rfl | ⟨k, rfl⟩ | ⟨k, rfl⟩ := xo6 i
 . cases h1
 . rw [xp4]; exact zf8 h
 . exact (qq2 k h1).elim
theorem zr4 {i : Nat} (h : i + 1 < 2 ^ 0) : False := Nat.not_lt_zero _ (Nat.lt_of_succ_lt_succ h)
theorem Tr.get_put (v : AO) : ∀ (f : Nat) (t : Tr) (i j : Nat), i + 1 < 2 ^ f -> (Tr.put v f t i).get j = if j = i then some v else t.get j
 | 0, _, _, _, h => (zr4 h).elim
 | f + 1, .node w l r, i, j, h => by
  rw [Tr.put_node]
  exact get_upd (fun h1 j => get_put v f l _ j (xf0 h h1)) fun h0 h1 j => get_put v f r _ j (xf1 h h0 h1)
 | f + 1, .nil, i, j, h => by
  rw [Tr.put_nil, Tr.put_node]
  refine (get_upd (fun h1 j => get_put v f .nil _ j (xf0 h h1)) fun h0 h1 j => get_put v f .nil _ j (xf1 h h0 h1)).trans ?_
  obtain rfl | ⟨m, rfl⟩ | ⟨m, rfl⟩ := xo6 j
  . rfl
  . rw [get_odd]; rfl
  . rw [get_even]; rfl
section
open PySem
theorem q6q {α : Type} {a : α} {P : Prop} (h : none = some a) : P := by cases h
theorem k2q {α : Type} {a : α} {P : Prop} (h : some a = none) : P := by cases h
theorem j7q {P : Prop} (h : false = true) : P := by cases h
theorem jh5 {P : Prop} (h : true = false) : P := by cases h
theorem xr1 {a n : Nat} (h : a + n <= 900) : a < recursionLimit := Nat.lt_of_le_of_lt (Nat.le_trans (Nat.le_add_right _ _) h) (by decide)
theorem zg8 {a m n : Nat} (h : a + n <= 900) (k : m + 1 <= n) : a + 1 + m <= 900 := by omega
theorem za8 {a m n : Nat} (h : a + 10 * n <= 9000) (k : m + 1 <= n) : a + 3 + 10 * m <= 9000 := by omega
theorem zn3 {n : Nat} (h : n <= 1000000) : (n : Int) < 9223372036854775808 := by omega
theorem shl {i m n : Nat} (h : i + (m + 1) <= n) : i + 1 + m <= n := Nat.succ_add_eq_add_succ i m ▸ h
theorem shl0 {i m n : Nat} (h : i + (m + 1) <= n) : i < n := Nat.lt_of_lt_of_le (Nat.lt_add_of_pos_right (Nat.succ_pos m)) h
end
noncomputable def Pre (V ρ' : List Addr) : Prop := ∃ t, ρ' = V ++ t
theorem Pre.refl (V : List Addr) : Pre V V := ⟨[], by simp⟩
theorem Pre.trans {a b c : List Addr} (x : Pre a b) (y : Pre b c) : Pre a c := by
 obtain ⟨t, rfl⟩ := x; obtain ⟨u, rfl⟩ := y; exact ⟨t ++ u, by simp⟩
theorem Pre.get {V ρ' : List Addr} (x : Pre V ρ') {i : Nat} {a : Addr} (h : V[i]? = some a) : ρ'[i]? = some a := by
 obtain ⟨t, rfl⟩ := x
 have := (List.getElem?_eq_some_iff.mp h).1
 rw [List.getElem?_append_left this]; exact h
theorem Pre.mem {V ρ' : List Addr} (x : Pre V ρ') {a : Addr} (h : a ∈ V) : a ∈ ρ' := by
 obtain ⟨t, rfl⟩ := x; exact List.mem_append_left _ h
structure FnInfo where
 name : Str
 qual : Str
 params : Arguments
 body : Expr
 scope : Scope
 clos : List Str
structure Gl where
 w : World
 U : Heap
 mg : Str -> Option Value
 mb : Str -> Option Value
 ν : Vl
 dO : Drawn
 osO : OsState
 mt : Bool -> Nat -> Int -> Option SI
 fns : List FnInfo
 tabs : List Addr
noncomputable def qb7 (ν : Vl) (i : SI) : UInt8 := UInt8.ofNat (i.val ν).toNat
noncomputable def repV (ν : Vl) (V : List Addr) : AV -> Value -> Prop
 | .none, v => v = .none
 | .bool b, v => v = .bool b
 | .int i, v => ∃ t, v = .int (i.val ν) t
 | .str x, v => ∃ t, v = .str ⟨x.toArray⟩ t
 | .bytes b, v => (∃ t, v = .bytes (b.map (qb7 ν)).toArray t) /\ ∀ i ∈ b, 0 <= i.val ν /\ i.val ν < 256
 | .stat u, v => v = u
 | .ref i, v => ∃ a, V[i]? = some a /\ v = .ref a
noncomputable def reps (ν : Vl) (V : List Addr) : List AV -> List Value -> Prop
 | [], [] => True
 | a :: l, v :: r => repV ν V a v /\ reps ν V l r
 | _, _ => False
noncomputable def w5q (ν : Vl) (V : List Addr) : Option AV -> Option Value -> Prop
 | none, none => True
 | some a, some v => repV ν V a v
 | _, _ => False
noncomputable def y7q (ν : Vl) (V : List Addr) : List (Option AV) -> List (Option Value) -> Prop
 | [], [] => True
 | a :: l, v :: r => w5q ν V a v /\ y7q ν V l r
 | _, _ => False
noncomputable def k1q (g : Gl) (V : List Addr) : List (List Nat × AV) -> List DictEntry -> Prop
 | [], [] => True
 | a :: l, e :: r => ((∃ t, e.key = .str ⟨a.1.toArray⟩ t) /\ e.hash = hashStr g.w ⟨a.1.toArray⟩) /\ repV g.ν V a.2 e.val /\ k1q g V l r
 | _, _ => False
theorem repV.mono {ν : Vl} {V ρ' : List Addr} (p : Pre V ρ') {a : AV} {v : Value} (h : repV ν V a v) : repV ν ρ' a v := by
 induction a <;> try exact h
 obtain ⟨x, hx, rfl⟩ := h
 exact ⟨x, p.get hx, rfl⟩
theorem reps.mono {ν : Vl} {V ρ' : List Addr} (p : Pre V ρ') : ∀ {l : List AV} {vs : List Value}, reps ν V l vs -> reps ν ρ' l vs
 | [], [], _ => trivial
 | _ :: _, _ :: _, h => ⟨h.1.mono p, h.2.mono p⟩
 | [], _ :: _, h => h
 | _ :: _, [], h => h
theorem w5q.mono {ν : Vl} {V ρ' : List Addr} (p : Pre V ρ') : ∀ {a : Option AV} {v : Option Value}, w5q ν V a v -> w5q ν ρ' a v
 | none, none, _ => trivial
 | some _, some _, h => repV.mono p h
 | none, some _, h => h
 | some _, none, h => h
theorem y7q.mono {ν : Vl} {V ρ' : List Addr} (p : Pre V ρ') : ∀ {l : List (Option AV)} {vs : List (Option Value)}, y7q ν V l vs -> y7q ν ρ' l vs
 | [], [], _ => trivial
 | _ :: _, _ :: _, h => ⟨h.1.mono p, y7q.mono p h.2⟩
 | [], _ :: _, h => h
 | _ :: _, [], h => h
theorem k1q.mono {g : Gl} {V ρ' : List Addr} (p : Pre V ρ') : ∀ {l : List (List Nat × AV)} {vs : List DictEntry}, k1q g V l vs -> k1q g ρ' l vs
 | [], [], _ => trivial
 | _ :: _, _ :: _, h => ⟨h.1, h.2.1.mono p, h.2.2.mono p⟩
 | [], _ :: _, h => h
 | _ :: _, [], h => h
theorem len0 {α : Type} {l : List α} (h : l.length = 0) : l = [] := List.eq_nil_of_length_eq_zero h
theorem len1 {α : Type} {l : List α} (h : l.length = 1) : ∃ a, l = [a] := by
 induction l with
 | nil => cases h
 | cons a l => exact ⟨a, by rw [len0 (Nat.succ.inj h)]⟩
theorem len2 {α : Type} {l : List α} (h : l.length = 2) : ∃ a b, l = [a, b] := by
 induction l with
 | nil => cases h
 | cons a l => obtain ⟨b, e⟩ := len1 (Nat.succ.inj h); exact ⟨a, b, by rw [e]⟩
theorem len3 {α : Type} {l : List α} (h : l.length = 3) : ∃ a b c, l = [a, b, c] := by
 induction l with
 | nil => cases h
 | cons a l => obtain ⟨b, c, e⟩ := len2 (Nat.succ.inj h); exact ⟨a, b, c, by rw [e]⟩
theorem reps.length {ν : Vl} {V : List Addr} : ∀ {l : List AV} {vs : List Value}, reps ν V l vs -> l.length = vs.length
 | [], [], _ => rfl
 | _ :: _, _ :: _, h => by simp [reps.length h.2]
 | [], _ :: _, h => h.elim
 | _ :: _, [], h => h.elim
theorem jg7 {ν : Vl} {V : List Addr} {a : AV} {vs : List Value} (h : reps ν V [a] vs) : ∃ v, vs = [v] /\ repV ν V a v := by
 obtain ⟨v, rfl⟩ := len1 h.length.symm; exact ⟨v, rfl, h.1⟩
theorem zk2 {ν : Vl} {V : List Addr} {a b : AV} {vs : List Value} (h : reps ν V [a, b] vs) : ∃ v w, vs = [v, w] /\ repV ν V a v /\ repV ν V b w := by
 obtain ⟨v, w, rfl⟩ := len2 h.length.symm; exact ⟨v, w, rfl, h.1, h.2.1⟩
theorem reps3 {ν : Vl} {V : List Addr} {a b c : AV} {vs : List Value} (h : reps ν V [a, b, c] vs) : ∃ v w x, vs = [v, w, x] /\ repV ν V a v /\ repV ν V b w /\ repV ν V c x := by
 obtain ⟨v, w, x, rfl⟩ := len3 h.length.symm; exact ⟨v, w, x, rfl, h.1, h.2.1, h.2.2.1⟩
theorem reps.get {ν : Vl} {V : List Addr} : ∀ {l : List AV} {vs : List Value} {i : Nat} {a : AV}, reps ν V l vs -> l[i]? = some a -> ∃ v, vs[i]? = some v /\ repV ν V a v
 | a :: l, v :: vs, 0, b, h, e => by simp at e; subst e; exact ⟨v, rfl, h.1⟩
 | a :: l, v :: vs, i + 1, b, h, e => by
  obtain ⟨u, h1, h2⟩ := reps.get (i := i) h.2 (by simpa using e)
  exact ⟨u, by simpa using h1, h2⟩
 | [], [], _, _, _, e => by simp at e
 | [], _ :: _, _, _, h, _ => h.elim
 | _ :: _, [], _, _, h, _ => h.elim
theorem reps.app {ν : Vl} {V : List Addr} : ∀ {l l' : List AV} {vs vs' : List Value}, reps ν V l vs -> reps ν V l' vs' -> reps ν V (l ++ l') (vs ++ vs')
 | [], _, [], _, _, h' => h'
 | _ :: _, _, _ :: _, _, h, h' => ⟨h.1, reps.app h.2 h'⟩
 | [], _, _ :: _, _, h, _ => h.elim
 | _ :: _, _, [], _, h, _ => h.elim
noncomputable def qy8 (V : List Addr) : List (Nat × Nat × Nat) -> List Value -> Prop
 | [], [] => True
 | (l, c, i) :: r, a :: b :: v :: vs => a = rawInt l /\ b = rawInt c /\ (∃ x, V[i]? = some x /\ v = .ref x) /\ qy8 V r vs
 | _, _ => False
theorem qy8.mono {V ρ' : List Addr} (p : Pre V ρ') : ∀ {l : List (Nat × Nat × Nat)} {vs : List Value}, qy8 V l vs -> qy8 ρ' l vs
 | [], [], _ => trivial
 | (_, _, _) :: _, _ :: _ :: _ :: _, ⟨h1, h2, ⟨x, h3, h4⟩, h5⟩ => ⟨h1, h2, ⟨x, p.get h3, h4⟩, h5.mono p⟩
 | [], _ :: _, h => h
 | (_, _, _) :: _, [], h => h
 | (_, _, _) :: _, [_], h => h
 | (_, _, _) :: _, [_, _], h => h
noncomputable def qy9 (V : List Addr) : List Nat -> List (Str × Addr) -> Prop
 | [], [] => True
 | k :: r, e :: es => V[k]? = some e.2 /\ qy9 V r es
 | _, _ => False
theorem qy9.mono {V ρ' : List Addr} (p : Pre V ρ') : ∀ {l : List Nat} {vs : List (Str × Addr)}, qy9 V l vs -> qy9 ρ' l vs
 | [], [], _ => trivial
 | _ :: _, _ :: _, ⟨h1, h2⟩ => ⟨p.get h1, h2.mono p⟩
 | [], _ :: _, h => h
 | _ :: _, [], h => h
inductive RepL (g : Gl) (V : List Addr) (T : String) (xs : List AV) (o : Obj) : Prop
 | mk (vs : List Value) (n : Nat) (h : reps g.ν V xs vs) (e : o = ⟨.type T, none, .seq vs.toArray n, #[]⟩)
inductive RepD (g : Gl) (V : List Addr) (es : List (List Nat × AV)) (ep : Nat) (o : Obj) : Prop
 | mk (fs : List DictEntry) (h1 : k1q g V es fs) (h2 : (es.map (·.1)).Nodup) (e : o = ⟨.type "dict", none, .dict fs.toArray ep, #[]⟩)
inductive RepI (g : Gl) (k : Nat) (fd : FuncData) : Prop
 | mk (info : FnInfo) (h1 : g.fns[k]? = some info) (h2 : fd.name = info.name) (h3 : fd.qualname = info.qual) (h4 : fd.params = info.params) (h5 : fd.body = .expr info.body) (h6 : fd.scope = info.scope) (h7 : fd.closure.map (·.1) = info.clos)
inductive RepF (g : Gl) (V : List Addr) (k : Nat) (cells : List Nat) (d : Option Nat) (c : Nat) (o : Obj) : Prop
 | mk (fd : FuncData) (h1 : o.cls = .type "function") (h2 : o.data = .func fd) (h3 : o.slots = #[]) (h4 : match d with | none => o.dict = none | some j => ∃ dx, V[j]? = some dx /\ o.dict = some dx) (h5 : RepI g k fd)
  (h6 : fd.globals = mainGlobals) (h7 : fd.defaults = .none) (h8 : fd.kwdefaults = .none) (h9 : fd.builtins = builtinsNs) (h10 : qy9 V cells fd.closure) (cx : Addr) (h11 : V[c]? = some cx) (h12 : fd.code = .ref cx)
inductive Rep2 (P : Addr -> Prop) (Q : Addr -> Prop) : Prop
 | mk (a : Addr) (h1 : P a) (h2 : Q a)
inductive RepN (g : Gl) (V : List Addr) (C d : Nat) (sl : List (Option AV)) (o : Obj) : Prop
 | mk (dx : Addr) (vs : List (Option Value)) (h1 : V[d]? = some dx) (h2 : y7q g.ν V sl vs) (e : o = ⟨.ref C, some dx, .plain, vs.toArray⟩)
noncomputable def j2q (g : Gl) (V : List Addr) (o : Obj) : AO -> Prop
 | .list xs => RepL g V "list" xs o
 | .tuple xs => RepL g V "tuple" xs o
 | .dict es ep => RepD g V es ep o
 | .set xs => o.ExactSet /\ ∃ es ep t, o.data = .set es ep t /\ (∀ e ∈ es.toList, (∃ k, Value.isStrOf k e.2 = true /\ e.1 = hashStr g.w k) /\ e.2.scannable = true) /\
  (∀ k : Str, xs.any (fun x => decide (⟨x.toArray⟩ = k)) = true ↔ ∃ e ∈ es.toList, Value.isStrOf k e.2 = true) /\ es.size < scanBound /\ t.fits es.size = true /\ es.size <= xs.length
 | .cell v => ∃ u, w5q g.ν V v u /\ o.data = .cell u
 | .inst c d => Rep2 (fun dx => V[d]? = some dx) (fun dx => o = ⟨.ref c, some dx, .plain, #[]⟩)
 | .node C d sl => RepN g V C d sl o
 | .liter l i => Rep2 (fun a => V[l]? = some a) (fun a => o = ⟨.type "list_iterator", none, .fields #[.ref a, .int i 0], #[]⟩)
 | .fn k cells d c => RepF g V k cells d c o
 | .tab ps => ∃ vs, qy8 V ps vs /\ o = tabObj vs.toArray
 | .code k => ∃ vs t info, g.fns[k]? = some info /\ o.data = .fields vs /\ vs[1]? = some (.str info.qual t) /\ o.cls = .type "code"
 | .bound i => Rep2 (fun a => V[i]? = some a) (fun a => o = ⟨.type "method-wrapper", none, .fields #[.builtin "list_iterator.__next__", .ref a], #[]⟩)
theorem j2q.mono {g : Gl} {V ρ' : List Addr} (p : Pre V ρ') {o : Obj} {a : AO} (h : j2q g V o a) : j2q g ρ' o a := by
 induction a with
 | list xs => obtain ⟨vs, n, h1, h2⟩ := h; exact ⟨vs, n, h1.mono p, h2⟩
 | tuple xs => obtain ⟨vs, n, h1, h2⟩ := h; exact ⟨vs, n, h1.mono p, h2⟩
 | dict xs => obtain ⟨vs, h1, h2, h3⟩ := h; exact ⟨vs, h1.mono p, h2, h3⟩
 | set xs => exact h
 | cell v => obtain ⟨u, h1, h2⟩ := h; exact ⟨u, h1.mono p, h2⟩
 | inst c d => obtain ⟨u, h1, h2⟩ := h; exact ⟨u, p.get h1, h2⟩
 | node C d sl => obtain ⟨dx, vs, h1, h2, h3⟩ := h; exact ⟨dx, vs, p.get h1, h2.mono p, h3⟩
 | liter l i => obtain ⟨a, h1, h2⟩ := h; exact ⟨a, p.get h1, h2⟩
 | fn k cells d c =>
  obtain ⟨fd, h1, h2, h3, h4, h5, h6, h7, h8, h9, h10, cx, h11, h12⟩ := h
  refine ⟨fd, h1, h2, h3, ?_, h5, h6, h7, h8, h9, h10.mono p, cx, p.get h11, h12⟩
  induction d with
  | none => exact h4
  | some j => obtain ⟨dx, q1, q2⟩ := h4; exact ⟨dx, p.get q1, q2⟩
 | tab ps => obtain ⟨vs, h1, h2⟩ := h; exact ⟨vs, h1.mono p, h2⟩
 | code q => exact h
 | bound i => obtain ⟨a, h1, h2⟩ := h; exact ⟨a, p.get h1, h2⟩
theorem j2q.alive {g : Gl} {V : List Addr} {o : Obj} {a : AO} (h : j2q g V o a) : o.isFreed = false := by
 induction a with
 | list xs => obtain ⟨vs, n, h1, rfl⟩ := h; rfl
 | tuple xs => obtain ⟨vs, n, h1, rfl⟩ := h; rfl
 | dict xs => obtain ⟨vs, h1, h2, rfl⟩ := h; rfl
 | set xs => obtain ⟨h0, _, _, _, h1, _⟩ := h; obtain ⟨_, _, _, _⟩ := o; subst h1; rfl
 | cell v => obtain ⟨u, h1, h2⟩ := h; obtain ⟨_, _, _, _⟩ := o; subst h2; rfl
 | inst c d => obtain ⟨u, h1, rfl⟩ := h; rfl
 | node C d sl => obtain ⟨dx, vs, h1, h2, rfl⟩ := h; rfl
 | liter l i => obtain ⟨a, h1, rfl⟩ := h; rfl
 | fn => obtain ⟨fd, h1, h2, _⟩ := h; obtain ⟨_, _, _, _⟩ := o; subst h2; rfl
 | tab => obtain ⟨vs, _, rfl⟩ := h; rfl
 | code => obtain ⟨vs, t, info, _, h1, _⟩ := h; exact Obj.isFreed_of_fields h1
 | bound => obtain ⟨a, h1, rfl⟩ := h; rfl
structure Hp where
 n : Nat
 t : Tr
noncomputable def z5q : Nat := 1000000
noncomputable def Hp.push (H : Hp) (a : AO) : Hp := ⟨H.n + 1, Tr.put a 40 H.t H.n⟩
noncomputable def Hp.set (H : Hp) (i : Nat) (a : AO) : Hp := ⟨H.n, Tr.put a 40 H.t i⟩
structure St where
 H : Hp
 loc : List (Option AV)
 cel : List Nat
inductive Out (β : Type) where
 | ok (b : β) (st : St)
 | exc (k : Nat) (st : St)
 | bad
noncomputable def AM (β : Type) := St -> Out β
noncomputable def AM.ret {β : Type} (b : β) : AM β := fun st => .ok b st
noncomputable def AM.fail {β : Type} : AM β := fun _ => .bad
noncomputable def AM.bind {β γ : Type} (f : AM β) (g : β -> AM γ) : AM γ := fun st => Out.rec (motive := fun _ => Out γ) (fun b st' => g b st') (fun k st' => .exc k st') .bad (f st)
structure Cx where
 env : Env
 nm : List Str
 cn : List Str
 fr : List Env
 q : Bool
inductive Fs (fr : List Env) (b : Addr) : Prop
 | mk (e : Env) (he : e ∈ fr) (hf : e.frame = some b)
inductive FrAt (U h : Heap) (e : Env) : Prop
 | mk (hk : e.scope.kind = .function) (b : Addr) (o : Obj) (es : Array DictEntry) (ep : Nat) (h1 : e.frame = some b) (h2 : h.get? b = some o) (h3 : o.data = .dict es ep) (h4 : U.get? b = none)
noncomputable def FrOk (fr : List Env) (U h : Heap) : Prop := ∀ e ∈ fr, FrAt U h e
inductive HeapAt (g : Gl) (V : List Addr) (h : Heap) (i : Nat) (ao : AO) : Prop
 | mk (a : Addr) (o : Obj) (h1 : V[i]? = some a) (h2 : h.get? a = some o) (h3 : j2q g V o ao)
inductive CellAt (cl : List (Str × Addr)) (V : List Addr) (cel : List Nat) (i : Nat) (x : Str) : Prop
 | mk (k : Nat) (c : Addr) (h1 : cel[i]? = some k) (h2 : cl.lookup x = some c) (h3 : V[k]? = some c)
structure Inv (g : Gl) (cx : Cx) (V : List Addr) (st : St) (s : Shared) : Prop where
 base : ∀ b o, g.U.get? b = some o -> s.heap.get? b = some o
 own : ∀ a ∈ V, g.U.get? a = none /\ a ≠ cx.env.locals /\ ¬ Fs cx.fr a
 nodup : V.Nodup
 live : ∀ a ∈ V, ∃ o, s.heap.get? a = some o
 heap : ∀ i ao, st.H.t.get i = some ao -> HeapAt g V s.heap i ao
 size : st.H.n = V.length
 loc : ∃ m, s.heap.Ns cx.env.locals m /\ ∀ (i : Nat) x, cx.nm[i]? = some x -> w5q g.ν V (st.loc[i]?).join (m x)
 lnew : g.U.get? cx.env.locals = none
 cells : ∀ (i : Nat) x, cx.cn[i]? = some x -> CellAt cx.env.cells V st.cel i x
 frs : FrOk cx.fr g.U s.heap
 gens : s.gens = #[]
 drawn : s.drawn = g.dO
 os : s.os = g.osO
 tabs : Pre g.tabs V
structure Ext (cx : Cx) (V : List Addr) (h : Heap) (ρ' : List Addr) (h' : Heap) : Prop where
 pre : Pre V ρ'
 fresh : ∀ a ∈ ρ', a ∉ V -> h.get? a = none /\ a ≠ cx.env.locals
 keep : ∀ b o, h.get? b = some o -> b ∉ V -> b ≠ cx.env.locals -> (¬ Fs cx.fr b -> h'.get? b = some o) /\ ∃ sl, h'.get? b = some { o with slots := sl }
theorem Ext.refl (cx : Cx) (V : List Addr) (h : Heap) : Ext cx V h V h :=
 ⟨Pre.refl V, fun _ h1 h2 => absurd h1 h2, fun _ o e _ _ => ⟨fun _ => e, o.slots, e⟩⟩
theorem Ext.none {cx : Cx} {VA VB : List Addr} {h₁ h₂ : Heap} (x : Ext cx VA h₁ VB h₂) {a : Addr} (hn : h₂.get? a = Option.none) (h1 : a ∉ VA) (hl : a ≠ cx.env.locals) : h₁.get? a = Option.none := by
 induction q : h₁.get? a with
 | none => rfl
 | some o =>
  obtain ⟨_, sl, e⟩ := x.keep a o q h1 hl
  rw [hn] at e; exact q6q e
theorem Ext.trans {cx : Cx} {VA VB VC : List Addr} {h₁ h₂ h₃ : Heap} (x : Ext cx VA h₁ VB h₂) (y : Ext cx VB h₂ VC h₃) : Ext cx VA h₁ VC h₃ := by
 refine ⟨x.pre.trans y.pre, fun a h3 h1 => ?_, fun b o e nb nl => ?_⟩
 . by_cases h2 : a ∈ VB
   . exact x.fresh a h2 h1
   . have z := y.fresh a h3 h2
     exact ⟨x.none z.1 h1 z.2, z.2⟩
 . have nb2 : b ∉ VB := fun q => by
    have := (x.fresh b q nb).1
    rw [e] at this; exact k2q this
   obtain ⟨k1, sl, k2⟩ := x.keep b o e nb nl
   refine ⟨fun nf => (y.keep b o (k1 nf) nb2 nl).1 nf, ?_⟩
   obtain ⟨_, sl', k3⟩ := y.keep b _ k2 nb2 nl
   exact ⟨sl', k3⟩
structure AOk (cx : Cx) (n : Nat) (A : Around) : Prop where
 frames : A.frames = some cx.fr
 depth : A.depth + n <= 900
 units : A.units + 10 * n <= 9000
 quiet : cx.q = true -> A.handled = none
inductive ExcAt (h0 : Heap) (V : List Addr) (cx : Cx) (cls : Value) (e : Value) (h : Heap) : Prop
 | mk (a : Addr) (o : Obj) (vs : Array Value) (h1 : e = .ref a) (h2 : h0.get? a = none) (h3 : a ∉ V) (h4 : ¬ Fs cx.fr a) (h5 : a ≠ cx.env.locals) (h6 : h.get? a = some o) (h7 : o.cls = cls) (h8 : o.data = .fields vs) (h9 : 6 <= vs.size)
  (h10 : vs[1]? = some .none \/ ∃ t ot ts, vs[1]? = some (.ref t) /\ h0.get? t = none /\ t ∉ V /\ t ≠ a /\ ¬ Fs cx.fr t /\ t ≠ cx.env.locals /\ h.get? t = some ot /\ ot.data = .fields ts /\ 4 <= ts.size)
noncomputable def qx5 : Nat -> Value
 | 0 => .type "ValueError"
 | 1 => .type "StopIteration"
 | n => .ref n
inductive QOkH (g : Gl) (cx : Cx) (V : List Addr) (h : Heap) {α β : Type} (R : List Addr -> β -> α -> Prop) (o : Out β) (v : α) (s' : Shared) : Prop
 | mk (b : β) (st' : St) (ρ' : List Addr) (h1 : o = .ok b st') (h2 : R ρ' b v) (h3 : Inv g cx ρ' st' s') (h4 : Ext cx V h ρ' s'.heap)
inductive EOkH (g : Gl) (cx : Cx) (V : List Addr) (h : Heap) {β : Type} (o : Out β) (e : Value) (s' : Shared) : Prop
 | mk (k : Nat) (st' : St) (ρ' : List Addr) (h1 : o = .exc k st') (h2 : ExcAt h ρ' cx (qx5 k) e s'.heap) (h3 : Inv g cx ρ' st' s') (h4 : Ext cx V h ρ' s'.heap)
noncomputable abbrev QOk (g : Gl) (cx : Cx) (V : List Addr) (s : Shared) {α β : Type} (R : List Addr -> β -> α -> Prop) (o : Out β) : α -> Shared -> Prop := QOkH g cx V s.heap R o
noncomputable abbrev EOk (g : Gl) (cx : Cx) (V : List Addr) (s : Shared) {β : Type} (o : Out β) : Value -> Shared -> Prop := EOkH g cx V s.heap o
noncomputable def RG (g : Gl) (prog : Program) (cx : Cx) (A : Around) (V : List Addr) (s : Shared) {α β : Type} (R : List Addr -> β -> α -> Prop) (t : Sem α) (o : Out β) : Prop := wpAny (model prog g.w) A t (QOk g cx V s R o) (EOk g cx V s o) s
noncomputable def RefX (g : Gl) (prog : Program) (cx : Cx) (n : Nat) (P : List Addr -> Prop) {α β : Type} (R : List Addr -> β -> α -> Prop) (t : Sem α) (f : AM β) : Prop :=
 ∀ A V st s, AOk cx n A -> P V -> Inv g cx V st s -> f st ≠ .bad -> RG g prog cx A V s R t (f st)
noncomputable def Mono (P : List Addr -> Prop) : Prop := ∀ V ρ', Pre V ρ' -> P V -> P ρ'
noncomputable def jm9 {α β : Type} (R : List Addr -> β -> α -> Prop) : Prop := ∀ b v, Mono fun V => R V b v
theorem Mono.true : Mono fun _ => True := fun _ _ _ h => h
theorem Mono.and {P Q : List Addr -> Prop} (p : Mono P) (q : Mono Q) : Mono fun V => P V /\ Q V := fun V ρ' h x => ⟨p V ρ' h x.1, q V ρ' h x.2⟩
theorem z6q (ν : Vl) : jm9 (repV ν) := fun _ _ _ _ p h => h.mono p
theorem xt3 (ν : Vl) : jm9 (reps ν) := fun _ _ _ _ p h => h.mono p
section
variable {g : Gl} {prog : Program} {cx : Cx} {n : Nat} {P : List Addr -> Prop} {α β γ δ : Type}
theorem ExcAt.mono {VA VB V : List Addr} {h₁ h₂ : Heap} {c e : Value} {h : Heap} (x : ExcAt h₂ V cx c e h) (y : Ext cx VA h₁ VB h₂) (hp : Pre VB V) : ExcAt h₁ V cx c e h := by
 obtain ⟨a, o, vs, h1, h2, h3, h4, h5, h6, h7, h8, h9, h10⟩ := x
 have up : ∀ b, b ∉ V -> b ∉ VA := fun b hb q => hb (hp.mem (y.pre.mem q))
 refine ⟨a, o, vs, h1, y.none h2 (up a h3) h5, h3, h4, h5, h6, h7, h8, h9, ?_⟩
 rcases h10 with q | ⟨t, ot, ts, q1, q2, q3, q4, q5, q6, q7⟩
 . exact .inl q
 . exact .inr ⟨t, ot, ts, q1, y.none q2 (up t q3) q6, q3, q4, q5, q6, q7⟩
theorem RefX.bind {R : List Addr -> β -> α -> Prop} {R' : List Addr -> δ -> γ -> Prop} {t : Sem α} {k : α -> Sem γ} {f : AM β} {f' : β -> AM δ} (hP : Mono P)
 (h : RefX g prog cx n P R t f) (h' : ∀ b v, RefX g prog cx n (fun V => P V /\ R V b v) R' (k v) (f' b)) : RefX g prog cx n P R' (t >>= k) (f.bind f') := by
 intro A V st s hA hp I hb
 have hb1 : f st ≠ .bad := fun e => hb (by unfold AM.bind; rw [e])
 refine w0z (w3z (h A V st s hA hp I hb1) ?_ ?_)
 . rintro v s₁ ⟨b, st₁, VA, e, hR, I₁, XA⟩
   have hf : (f.bind f') st = f' b st₁ := by unfold AM.bind; rw [e]
   rw [hf] at hb ⊢
   refine w3z (h' b v A VA st₁ s₁ hA ⟨hP _ _ XA.pre hp, hR⟩ I₁ hb) ?_ ?_
   . rintro u sB ⟨c, stB, VB, eB, hRB, IB, XB⟩
     exact ⟨c, stB, VB, eB, hRB, IB, XA.trans XB⟩
   . rintro x sB ⟨c, stB, VB, eB, hRB, IB, XB⟩
     exact ⟨c, stB, VB, eB, hRB.mono XA XB.pre, IB, XA.trans XB⟩
 . rintro x s₁ ⟨c, st₁, VA, e, hR, I₁, XA⟩
   exact ⟨c, st₁, VA, by unfold AM.bind; rw [e], hR, I₁, XA⟩
theorem RefX.weak {R : List Addr -> β -> α -> Prop} {t : Sem α} {f : AM β} {P' : List Addr -> Prop} (h : RefX g prog cx n P R t f) (hp : ∀ V, P' V -> P V) : RefX g prog cx n P' R t f :=
 fun A V st s hA hp' I hb => h A V st s hA (hp V hp') I hb
theorem RefX.pure {R : List Addr -> β -> α -> Prop} {v : α} {b : β} (h : ∀ V, P V -> R V b v) : RefX g prog cx n P R (pure v) (AM.ret b) :=
 fun _ V st s _ hp I _ => w2z ⟨b, st, V, rfl, h V hp, I, Ext.refl _ _ _⟩
theorem RefX.eq {R : List Addr -> β -> α -> Prop} {t t' : Sem α} {f : AM β} (e : t = t') (h : RefX g prog cx n P R t' f) : RefX g prog cx n P R t f := e ▸ h
theorem RefX.of_wp {R : List Addr -> β -> α -> Prop} {t t' : Sem α} {f : AM β} (h : ∀ A Q E s, wpAny (model prog g.w) A t' Q E s -> wpAny (model prog g.w) A t Q E s) (h' : RefX g prog cx n P R t' f) : RefX g prog cx n P R t f :=
 fun A V st s hA hp I hb => h A _ _ s (h' A V st s hA hp I hb)
end
theorem xf3 {β : Type} {F : List AV -> Out β} {x : Option AO} (h : (match x with | some (.list xs) => F xs | _ => Out.bad) ≠ .bad) : ∃ xs, x = some (.list xs) := by
 induction x with
 | none => exact (h rfl).elim
 | some o => induction o <;> first | exact ⟨_, rfl⟩ | exact (h rfl).elim
theorem zg2 {β : Type} {F : List AV -> Out β} {x : Option AO} (h : (match x with | some (.tuple xs) => F xs | _ => Out.bad) ≠ .bad) : ∃ xs, x = some (.tuple xs) := by
 induction x with
 | none => exact (h rfl).elim
 | some o => induction o <;> first | exact ⟨_, rfl⟩ | exact (h rfl).elim
theorem qf6 {β : Type} {F : List (List Nat × AV) -> Nat -> Out β} {x : Option AO} (h : (match x with | some (.dict es ep) => F es ep | _ => Out.bad) ≠ .bad) : ∃ es ep, x = some (.dict es ep) := by
 induction x with
 | none => exact (h rfl).elim
 | some o => induction o <;> first | exact ⟨_, _, rfl⟩ | exact (h rfl).elim
theorem xu7 {β : Type} {F : Nat -> Nat -> Out β} {x : Option AO} (h : (match x with | some (.inst c d) => F c d | _ => Out.bad) ≠ .bad) : ∃ c d, x = some (.inst c d) := by
 induction x with
 | none => exact (h rfl).elim
 | some o => induction o <;> first | exact ⟨_, _, rfl⟩ | exact (h rfl).elim
theorem get_node {β : Type} {F : Nat -> Nat -> List (Option AV) -> Out β} {x : Option AO} (h : (match x with | some (.node c d sl) => F c d sl | _ => Out.bad) ≠ .bad) : ∃ c d sl, x = some (.node c d sl) := by
 induction x with
 | none => exact (h rfl).elim
 | some o => induction o <;> first | exact ⟨_, _, _, rfl⟩ | exact (h rfl).elim
theorem xl0 {β : Type} {F : Nat -> Nat -> Out β} {x : Option AO} (h : (match x with | some (.liter l k) => F l k | _ => Out.bad) ≠ .bad) : ∃ l k, x = some (.liter l k) := by
 induction x with
 | none => exact (h rfl).elim
 | some o => induction o <;> first | exact ⟨_, _, rfl⟩ | exact (h rfl).elim
theorem zx1 {β : Type} {F : List (Nat × Nat × Nat) -> Out β} {x : Option AO} (h : (match x with | some (.tab ps) => F ps | _ => Out.bad) ≠ .bad) : ∃ ps, x = some (.tab ps) := by
 induction x with
 | none => exact (h rfl).elim
 | some o => induction o <;> first | exact ⟨_, rfl⟩ | exact (h rfl).elim
theorem x7q {β : Type} {F : Nat -> AM β} {a : AV} {st : St} (h : (match a with | .ref i => F i | _ => AM.fail) st ≠ .bad) : ∃ i, a = .ref i := by induction a <;> first | exact ⟨_, rfl⟩ | exact (h rfl).elim
theorem xq5 {β : Type} {F : SI -> AM β} {a : AV} {st : St} (h : (match a with | .int i => F i | _ => AM.fail) st ≠ .bad) : ∃ i, a = .int i := by induction a <;> first | exact ⟨_, rfl⟩ | exact (h rfl).elim
theorem qo2 {β : Type} {F : List Nat -> AM β} {a : AV} {st : St} (h : (match a with | .str i => F i | _ => AM.fail) st ≠ .bad) : ∃ i, a = .str i := by induction a <;> first | exact ⟨_, rfl⟩ | exact (h rfl).elim
theorem zf4 {β : Type} {F : List SI -> AM β} {a : AV} {st : St} (h : (match a with | .bytes i => F i | _ => AM.fail) st ≠ .bad) : ∃ i, a = .bytes i := by induction a <;> first | exact ⟨_, rfl⟩ | exact (h rfl).elim
section
variable {g : Gl} {prog : Program} {cx : Cx} {n : Nat} {V : List Addr} {st st' : St} {s : Shared}
theorem Inv.loc_live (I : Inv g cx V st s) : ∃ o, s.heap.get? cx.env.locals = some o := by
 obtain ⟨m, ⟨o, es, ep, h, _⟩, _⟩ := I.loc
 exact ⟨o, h⟩
theorem Inv.fs_live (I : Inv g cx V st s) {b : Addr} (h : Fs cx.fr b) : ∃ o, s.heap.get? b = some o := by
 obtain ⟨e, he, hb⟩ := h
 obtain ⟨_, b', o, es, ep, h1, h2, _⟩ := I.frs e he
 rw [h1] at hb
 obtain rfl := w4z hb
 exact ⟨o, h2⟩
theorem Inv.none_of (I : Inv g cx V st s) {a : Addr} (h : s.heap.get? a = none) : g.U.get? a = none /\ a ≠ cx.env.locals /\ ¬ Fs cx.fr a /\ a ∉ V := by
 refine ⟨?_, fun q => ?_, fun q => ?_, fun q => ?_⟩
 . induction q : g.U.get? a with
   | none => rfl
   | some o => have := I.base a o q; rw [h] at this; exact q6q this
 . obtain ⟨o, e⟩ := I.loc_live
   rw [<- q, h] at e; exact q6q e
 . obtain ⟨o, e⟩ := I.fs_live q
   rw [h] at e; exact q6q e
 . obtain ⟨o, e⟩ := I.live a q
   rw [h] at e; exact q6q e
theorem Inv.move (I : Inv g cx V st s) {ρ' : List Addr} {h' : Heap} {tk : Nat} (hp : Pre V ρ') (hf : ∀ a ∈ ρ', a ∉ V -> s.heap.get? a = none) (hn : ρ'.Nodup) (hlow : ∀ a ∈ ρ', ∃ o, h'.get? a = some o)
 (hk : ∀ b o, s.heap.get? b = some o -> b ∉ V -> b ≠ cx.env.locals -> h'.get? b = some o)
 (hh : ∀ i ao, st'.H.t.get i = some ao -> HeapAt g ρ' h' i ao) (hs : st'.H.n = ρ'.length)
 (hl : ∃ m, h'.Ns cx.env.locals m /\ ∀ (i : Nat) x, cx.nm[i]? = some x -> w5q g.ν ρ' (st'.loc[i]?).join (m x)) (hc : st'.cel = st.cel) :
 Inv g cx ρ' st' { s with heap := h', toks := tk } /\ Ext cx V s.heap ρ' h' := by
 have hx : Ext cx V s.heap ρ' h' := ⟨hp, fun a h1 h2 => ⟨hf a h1 h2, (I.none_of (hf a h1 h2)).2.1⟩, fun b o e nb nl => ⟨fun _ => hk b o e nb nl, o.slots, hk b o e nb nl⟩⟩
 refine ⟨⟨fun b o e => ?_, fun a ha => ?_, hn, hlow, hh, hs, hl, I.lnew, fun i x hx' => ?_, fun e he => ?_, I.gens, I.drawn, I.os, I.tabs.trans hp⟩, hx⟩
 . refine hk b o (I.base b o e) (fun q => ?_) (fun q => ?_)
   . rw [(I.own b q).1] at e; exact q6q e
   . rw [q, I.lnew] at e; exact q6q e
 . by_cases q : a ∈ V
   . exact I.own a q
   . have := I.none_of (hf a ha q)
     exact ⟨this.1, this.2.1, this.2.2.1⟩
 . obtain ⟨k, c, h1, h2, h3⟩ := I.cells i x hx'
   exact ⟨k, c, hc ▸ h1, h2, hp.get h3⟩
 . obtain ⟨h0, b, o, es, ep, h1, h2, h3, h4⟩ := I.frs e he
   by_cases q : b = cx.env.locals
   . obtain ⟨m, ⟨o', es', ep', z1, z2, _⟩, _⟩ := hl
     exact ⟨h0, b, o', es', ep', h1, q ▸ z1, z2, h4⟩
   . exact ⟨h0, b, o, es, ep, h1, hk b o h2 (fun z => (I.own b z).2.2 ⟨e, he, h1⟩) q, h3, h4⟩
theorem Inv.heap_keep (I : Inv g cx V st s) {ρ' : List Addr} {h' : Heap} (hp : Pre V ρ') (hk : ∀ a ∈ V, ∀ o, s.heap.get? a = some o -> h'.get? a = some o) {i : Nat} {ao : AO}
 (e : st.H.t.get i = some ao) : HeapAt g ρ' h' i ao := by
 obtain ⟨a, o, h1, h2, h3⟩ := I.heap i ao e
 exact ⟨a, o, hp.get h1, hk a (w7z h1) o h2, h3.mono hp⟩
theorem Inv.loc_keep (I : Inv g cx V st s) {ρ' : List Addr} {h' : Heap} (hp : Pre V ρ') (hk : ∀ o, s.heap.get? cx.env.locals = some o -> h'.get? cx.env.locals = some o) :
 ∃ m, h'.Ns cx.env.locals m /\ ∀ (i : Nat) x, cx.nm[i]? = some x -> w5q g.ν ρ' (st.loc[i]?).join (m x) := by
 obtain ⟨m, ⟨o, es, ep, h1, r⟩, h2⟩ := I.loc
 exact ⟨m, ⟨o, es, ep, hk o h1, r⟩, fun i x hx => (h2 i x hx).mono hp⟩
theorem Inv.tok (I : Inv g cx V st s) (tk : Nat) : Inv g cx V st { s with toks := tk } := ⟨I.base, I.own, I.nodup, I.live, I.heap, I.size, I.loc, I.lnew, I.cells, I.frs, I.gens, I.drawn, I.os, I.tabs⟩
theorem Inv.grow (I : Inv g cx V st s) {h' : Heap} (tk : Nat) (hk : ∀ b o, s.heap.get? b = some o -> h'.get? b = some o) :
 Inv g cx V st { s with heap := h', toks := tk } /\ Ext cx V s.heap V h' :=
 I.move (Pre.refl V) (fun _ h1 h2 => absurd h1 h2) I.nodup (fun a ha => (I.live a ha).imp fun o e => hk a o e) (fun b o e _ _ => hk b o e) (fun _ _ e => I.heap_keep (Pre.refl V) (fun a _ o => hk a o) e) I.size (I.loc_keep (Pre.refl V) fun o => hk _ o) rfl
theorem qa6 {k : Nat} (h : Nat.blt k z5q = true) : k + 1 < 2 ^ 40 := by
 have h1 : k < z5q := w5z h
 unfold z5q at h1
 have : (1000000 : Nat) < 2 ^ 40 := by decide
 exact Nat.lt_of_le_of_lt (by assumption) (by decide)
theorem Inv.alloc (I : Inv g cx V st s) {h' : Heap} (tk : Nat) {a : Addr} {o : Obj} {ao : AO} (ha : s.heap.get? a = none) (ho : h'.get? a = some o)
 (hk : ∀ b o, s.heap.get? b = some o -> h'.get? b = some o) (hr : j2q g (V ++ [a]) o ao) (hl : Nat.blt st.H.n z5q = true) :
 Inv g cx (V ++ [a]) { st with H := st.H.push ao } { s with heap := h', toks := tk } /\ Ext cx V s.heap (V ++ [a]) h' := by
 have hp : Pre V (V ++ [a]) := ⟨[a], rfl⟩
 have hna : a ∉ V := (I.none_of ha).2.2.2
 refine I.move hp (fun b hb hn => ?_) ?_ (fun b hb => ?_) (fun b o e _ _ => hk b o e) (fun i ao' e => ?_) ?_ (I.loc_keep hp fun o => hk _ o) rfl
 . rcases List.mem_append.mp hb with q | q
   . exact absurd q hn
   . rw [List.mem_singleton.mp q]; exact ha
 . exact List.nodup_append.mpr ⟨I.nodup, by simp, fun x hx y hy => by rw [List.mem_singleton.mp hy]; exact fun z => hna (z ▸ hx)⟩
 . rcases List.mem_append.mp hb with q | q
   . exact (I.live b q).imp fun o e => hk b o e
   . rw [List.mem_singleton.mp q]; exact ⟨o, ho⟩
 . have e' : (Tr.put ao 40 st.H.t st.H.n).get i = some ao' := e
   rw [Tr.get_put _ _ _ _ _ (qa6 hl)] at e'
   by_cases q : i = st.H.n
   . rw [if_pos q] at e'
     cases e'
     refine ⟨a, o, ?_, ho, hr⟩
     rw [q, I.size]; simp
   . rw [if_neg q] at e'
     exact I.heap_keep hp (fun b _ o => hk b o) e'
 . show st.H.n + 1 = (V ++ [a]).length
   rw [I.size]; simp
theorem Inv.upd (I : Inv g cx V st s) {h' : Heap} (tk : Nat) {i : Nat} {a : Addr} {o : Obj} {ao : AO} (hi : V[i]? = some a) (hs : ∀ b, b ≠ a -> h'.get? b = s.heap.get? b) (ho : h'.get? a = some o)
 (hr : j2q g V o ao) (hl : Nat.blt i z5q = true) :
 Inv g cx V { st with H := st.H.set i ao } { s with heap := h', toks := tk } /\ Ext cx V s.heap V h' := by
 have ha := w7z hi
 refine I.move (Pre.refl V) (fun _ h1 h2 => absurd h1 h2) I.nodup (fun b hb => ?_) (fun b o e nb _ => ?_) (fun j ao' e => ?_) I.size (I.loc_keep (Pre.refl V) fun o e => ?_) rfl
 . by_cases q : b = a
   . exact ⟨o, q ▸ ho⟩
   . rw [hs b q]; exact I.live b hb
 . rw [hs b (fun q => nb (q ▸ ha))]; exact e
 . have e' : (Tr.put ao 40 st.H.t i).get j = some ao' := e
   rw [Tr.get_put _ _ _ _ _ (qa6 hl)] at e'
   by_cases q : j = i
   . rw [if_pos q] at e'
     cases e'
     exact ⟨a, o, q ▸ hi, ho, hr⟩
   . rw [if_neg q] at e'
     obtain ⟨b, ob, h1, h2, h3⟩ := I.heap j ao' e'
     refine ⟨b, ob, h1, ?_, h3⟩
     rw [hs b (fun z => ?_)]
     . exact h2
     . subst z
       have l1 := (List.getElem?_eq_some_iff.mp h1)
       have l2 := (List.getElem?_eq_some_iff.mp hi)
       obtain ⟨p1, e1⟩ := l1
       obtain ⟨p2, e2⟩ := l2
       exact q ((List.getElem_inj I.nodup).mp (e1.trans e2.symm))
 . rw [hs _ (fun z => (I.own a ha).2.1 z.symm)]; exact e
theorem Inv.store (I : Inv g cx V st s) {h' : Heap} (tk : Nat) {m' : Str -> Option Value} {loc' : List (Option AV)} (hn : h'.Ns cx.env.locals m') (hs : ∀ b, b ≠ cx.env.locals -> h'.get? b = s.heap.get? b)
 (hl : ∀ (i : Nat) x, cx.nm[i]? = some x -> w5q g.ν V (loc'[i]?).join (m' x)) :
 Inv g cx V { st with loc := loc' } { s with heap := h', toks := tk } /\ Ext cx V s.heap V h' := by
 refine I.move (Pre.refl V) (fun _ h1 h2 => absurd h1 h2) I.nodup (fun b hb => by rw [hs b (I.own b hb).2.1]; exact I.live b hb) (fun b o e _ nl => ?_) (fun j ao' e => ?_) I.size ⟨m', hn, hl⟩ rfl
 . rw [hs b nl]; exact e
 . exact I.heap_keep (Pre.refl V) (fun a ha o e => by rw [hs a (I.own a ha).2.1]; exact e) e
end
section
variable {β : Type} {b c : β} {s t : St} {j k : Nat} {P : Prop}
theorem j1q (h : Out.bad = Out.ok b s) : P := by cases h
theorem qt8 (h : Out.ok b s = Out.bad) : P := by cases h
theorem qj7 (h : Out.ok b s = Out.exc k t) : P := by cases h
theorem zl1 (h : Out.exc k t = Out.ok b s) : P := by cases h
theorem q3q (h : (Out.bad : Out β) ≠ Out.bad) : P := (h rfl).elim
theorem z7q (h : Out.ok b s = Out.ok c t) : b = c /\ s = t := by cases h; exact ⟨rfl, rfl⟩
theorem zx4 (h : (Out.exc j s : Out β) = Out.exc k t) : j = k /\ s = t := by cases h; exact ⟨rfl, rfl⟩
end
section
variable {g : Gl} {prog : Program} {cx : Cx} {n : Nat} {P : List Addr -> Prop} {α β γ δ : Type}
noncomputable def RefW (g : Gl) (_prog : Program) (cx : Cx) (n : Nat) (P : List Addr -> Prop) {α β : Type} (R : List Addr -> β -> α -> Prop) (T : Around -> (α -> Shared -> Prop) -> (Value -> Shared -> Prop) -> Shared -> Prop) (f : AM β) : Prop :=
 ∀ A V st s, AOk cx n A -> P V -> Inv g cx V st s -> f st ≠ .bad -> ∀ (Q : α -> Shared -> Prop) (E : VP), (∀ v s', QOk g cx V s R (f st) v s' -> Q v s') -> (∀ v s', EOk g cx V s (f st) v s' -> E v s') -> T A Q E s
theorem RefX.toW {R : List Addr -> β -> α -> Prop} {t : Sem α} {f : AM β} (h : RefX g prog cx n P R t f) : RefW g prog cx n P R (fun A Q E s => wpAny (model prog g.w) A t Q E s) f :=
 fun A V st s hA hp I hb _ _ hq he => w3z (h A V st s hA hp I hb) hq he
theorem RefW.toX {R : List Addr -> β -> α -> Prop} {t : Sem α} {f : AM β} {T : Around -> (α -> Shared -> Prop) -> (Value -> Shared -> Prop) -> Shared -> Prop} (ht : ∀ A Q E s, T A Q E s -> wpAny (model prog g.w) A t Q E s)
 (h : RefW g prog cx n P R T f) : RefX g prog cx n P R t f :=
 fun A V st s hA hp I hb => ht A _ _ s (h A V st s hA hp I hb _ _ (fun _ _ q => q) fun _ _ q => q)
theorem RefW.nest {R : List Addr -> β -> α -> Prop} {R' : List Addr -> δ -> γ -> Prop} {t : Sem α} {K : α -> Around -> (γ -> Shared -> Prop) -> (Value -> Shared -> Prop) -> Shared -> Prop} {f : AM β} {f' : β -> AM δ} (hP : Mono P)
 (h : RefX g prog cx n P R t f) (h' : ∀ b v, RefW g prog cx n (fun V => P V /\ R V b v) R' (K v) (f' b)) :
 RefW g prog cx n P R' (fun A Q E s => wpAny (model prog g.w) A t (fun v s₁ => K v A Q E s₁) E s) (f.bind f') := by
 intro A V st s hA hp I hb Q E hq he
 have hb1 : f st ≠ .bad := fun e => hb (by unfold AM.bind; rw [e])
 refine w3z (h A V st s hA hp I hb1) ?_ ?_
 . rintro v s₁ ⟨b, st₁, VA, e, hR, I₁, XA⟩
   have hf : (f.bind f') st = f' b st₁ := by unfold AM.bind; rw [e]
   rw [hf] at hb hq he
   refine h' b v A VA st₁ s₁ hA ⟨hP _ _ XA.pre hp, hR⟩ I₁ hb Q E (fun u sB hu => hq u sB ?_) fun x sB hx => he x sB ?_
   . obtain ⟨c, stB, VB, eB, hRB, IB, XB⟩ := hu
     exact ⟨c, stB, VB, eB, hRB, IB, XA.trans XB⟩
   . obtain ⟨c, stB, VB, eB, hRB, IB, XB⟩ := hx
     exact ⟨c, stB, VB, eB, hRB.mono XA XB.pre, IB, XA.trans XB⟩
 . rintro x s₁ ⟨c, st₁, VA, e, hR, I₁, XA⟩
   exact he _ _ ⟨c, st₁, VA, by unfold AM.bind; rw [e], hR, I₁, XA⟩
theorem RefW.weak {R : List Addr -> β -> α -> Prop} {T : Around -> (α -> Shared -> Prop) -> (Value -> Shared -> Prop) -> Shared -> Prop} {f : AM β} {P' : List Addr -> Prop} (h : RefW g prog cx n P R T f) (hp : ∀ V, P' V -> P V) : RefW g prog cx n P' R T f :=
 fun A V st s hA hp' I hb => h A V st s hA (hp V hp') I hb
theorem RefW.done {R : List Addr -> β -> α -> Prop} {v : α} {b : β} (h : ∀ V, P V -> R V b v) : RefW g prog cx n P R (fun _ Q _ s => Q v s) (AM.ret b) :=
 fun _ V st s _ hp I _ _ _ hq _ => hq _ _ ⟨b, st, V, rfl, h V hp, I, Ext.refl _ _ _⟩
end
noncomputable abbrev TT : List Addr -> Prop := fun _ => True
noncomputable def RefE (g : Gl) (prog : Program) (cx : Cx) (n : Nat) (e : Expr) (f : AM AV) : Prop := RefX g prog cx n TT (repV g.ν) (eval e cx.env) f
noncomputable def eqR {β : Type} : List Addr -> β -> β -> Prop := fun _ b v => b = v
noncomputable def RefT (g : Gl) (prog : Program) (cx : Cx) (n : Nat) (e : Expr) (f : AM Bool) : Prop := RefX g prog cx n TT eqR (isTrue e cx.env (eval e cx.env)) f
inductive AF where
 | next | brk | cont
 | ret (v : AV)
noncomputable def repF (ν : Vl) (V : List Addr) : AF -> Flow -> Prop
 | .next, f => f = .next
 | .brk, f => f = .brk
 | .cont, f => f = .cont
 | .ret a, f => ∃ v, f = .ret v /\ repV ν V a v
noncomputable def RefS (g : Gl) (prog : Program) (cx : Cx) (n : Nat) (e : Stmt) (f : AM AF) : Prop := RefX g prog cx n TT (repF g.ν) (exec e cx.env) f
noncomputable def RefB (g : Gl) (prog : Program) (cx : Cx) (n : Nat) (e : List Stmt) (f : AM AF) : Prop := RefX g prog cx n TT (repF g.ν) (execs e cx.env) f
structure GOk (g : Gl) : Prop where
 ng : g.U.Ns mainGlobals g.mg
 nb : g.U.Ns builtinsNs g.mb
 nl : g.U.NoLimit
 bt : ∀ x : Str, x ≠ "__name__" -> g.mb x = bootBuiltins x
 lv : g.ν.Ok
 mts : ∀ w d m r, g.mt w d m = some r -> r.val g.ν = ((SI.quo w d).val g.ν).fmod m
section
variable {g : Gl} {prog : Program} {cx : Cx} {n : Nat}
noncomputable def locM (i : Nat) : AM AV := fun st => match st.loc[i]? with
 | some (some a) => .ok a st
 | _ => .bad
noncomputable def celM (j : Nat) : AM AV := fun st => match st.cel[j]? with
 | some k => match st.H.t.get k with
  | some (.cell (some a)) => .ok a st
  | _ => .bad
 | none => .bad
theorem q0q {x : Str} {pos : Pos} {i : Nat} (hi : cx.nm[i]? = some x) (hk : cx.env.scope.kind = .function) (hl : cx.env.kindOf x = some .local) (hd : (x == ("__debug__" : Str)) = false) :
 RefE g prog cx n (.Name x pos) (locM i) := by
 intro A V st s hA _ I hb
 obtain ⟨m, hm, hr⟩ := I.loc
 have hx := hr i x hi
 unfold locM at hb ⊢
 induction h1 : st.loc[i]? with
 | none => exact q3q (h1 ▸ hb)
 | some w =>
  induction w with
  | none => exact q3q (h1 ▸ hb)
  | some a =>
   rw [h1] at hx
   simp only [Option.join] at hx ⊢
   induction h2 : m x with
   | none => rw [h2] at hx; exact hx.elim
   | some v =>
    rw [h2] at hx
    exact wpAny_Name (wpAny_loadName_local hk hl hm h2 ⟨a, st, V, rfl, hx, I, Ext.refl _ _ _⟩) hd
theorem Inv.celv {V : List Addr} {st : St} {s : Shared} (I : Inv g cx V st s) {j : Nat} {x : Str} (hj : cx.cn[j]? = some x) {k : Nat} {v : Option AV} (hk : st.cel[j]? = some k) (hv : st.H.t.get k = some (.cell v)) :
 ∃ c u o, cx.env.cells.lookup x = some c /\ V[k]? = some c /\ w5q g.ν V v u /\ s.heap.get? c = some o /\ o.data = .cell u := by
 obtain ⟨k', c, h1, h2, h3⟩ := I.cells j x hj
 obtain rfl := w4z (hk.symm.trans h1)
 obtain ⟨a, o, e1, e2, e3⟩ := I.heap _ _ hv
 obtain rfl := w4z (h3.symm.trans e1)
 obtain ⟨u, hu, hd⟩ := e3
 exact ⟨c, u, o, h2, h3, hu, e2, hd⟩
theorem xo0 {x : Str} {pos : Pos} {j : Nat} (hj : cx.cn[j]? = some x) (hl : ∀ A c v Q E s, cx.env.cells.lookup x = some c -> Heap.IsCell s.heap c (some v) -> Q v s -> wpAny (model prog g.w) A (loadName cx.env x) Q E s) (hd : (x == ("__debug__" : Str)) = false) :
 RefE g prog cx n (.Name x pos) (celM j) := by
 intro A V st s hA _ I hb
 unfold celM at hb ⊢
 induction h1 : st.cel[j]? with
 | none => exact q3q (h1 ▸ hb)
 | some k =>
  rw [h1] at hb
  dsimp only at hb ⊢
  induction h2 : st.H.t.get k with
  | none => exact q3q (h2 ▸ hb)
  | some ao =>
   rw [h2] at hb
   obtain ⟨v, rfl⟩ : ∃ v, ao = .cell v := by induction ao <;> first | exact ⟨_, rfl⟩ | exact q3q hb
   induction v with
   | none => exact q3q hb
   | some a =>
    obtain ⟨c, u, o, e1, e2, e3, e4, e5⟩ := I.celv hj h1 h2
    induction u with
    | none => exact e3.elim
    | some v => exact wpAny_Name (hl A c v _ _ _ e1 ⟨_, e4, e5⟩ ⟨a, st, V, rfl, e3, I, Ext.refl _ _ _⟩) hd
theorem x4q {x : Str} {pos : Pos} {j : Nat} (hj : cx.cn[j]? = some x) (hk : cx.env.scope.kind = .function) (hl : cx.env.kindOf x = some .cell) (hd : (x == ("__debug__" : Str)) = false) : RefE g prog cx n (.Name x pos) (celM j) :=
 xo0 hj (fun _ _ _ _ _ _ hc hv h => wpAny_loadName_cell hk hl hc hv h) hd
theorem zt0 {x : Str} {pos : Pos} {j : Nat} (hj : cx.cn[j]? = some x) (hk : cx.env.scope.kind = .function) (hl : cx.env.kindOf x = some .free) (hd : (x == ("__debug__" : Str)) = false) (hn : (x == ("__classdict__" : Str)) = false) : RefE g prog cx n (.Name x pos) (celM j) :=
 xo0 hj (fun _ _ _ _ _ _ hc hv h => wpAny_loadName_free hk hl hc hv h hn) hd
theorem k9q (G : GOk g) {x : Str} {pos : Pos} {v : Value} (hx : g.mg x = some v) (hk : cx.env.scope.kind = .function) (hl : cx.env.kindOf x = some .globalImplicit) (hg : cx.env.globals = mainGlobals) (hd : (x == ("__debug__" : Str)) = false) :
 RefE g prog cx n (.Name x pos) (AM.ret (.stat v)) := by
 intro A V st s hA _ I _
 exact Name_function_global hk hl (loadGlobal_global (by rw [hg]; exact G.ng.keeps I.base) hx ⟨.stat v, st, V, rfl, rfl, I, Ext.refl _ _ _⟩) hd
theorem q9q (G : GOk g) {x : Str} {pos : Pos} {v : Value} (hx : g.mg x = none) (hv : bootBuiltins x = some v) (hn : x ≠ "__name__") (hk : cx.env.scope.kind = .function) (hl : cx.env.kindOf x = some .globalImplicit) (hg : cx.env.globals = mainGlobals) (hb : cx.env.builtins = builtinsNs) (hd : (x == ("__debug__" : Str)) = false) :
 RefE g prog cx n (.Name x pos) (AM.ret (.stat v)) := by
 intro A V st s hA _ I _
 exact Name_function_global hk hl (loadGlobal_builtin (by rw [hg]; exact G.ng.keeps I.base) hx (by rw [hb]; exact G.nb.keeps I.base) ((G.bt x hn).trans hv) ⟨.stat v, st, V, rfl, rfl, I, Ext.refl _ _ _⟩) hd
theorem SI.val_lit (ν : Vl) (c : Int) : (SI.lin c 0 0).val ν = c := by simp [SI.val]
theorem j0q {i : Int} {k : Nat} {pos : Pos} : RefE g prog cx n (.Constant (.int i) k pos) (AM.ret (.int (.lin i 0 0))) :=
 fun _ V st s _ _ I _ => wpAny_Constant_int ⟨_, st, V, rfl, ⟨s.toks, by rw [SI.val_lit]⟩, I.tok _, Ext.refl _ _ _⟩
theorem qu4 {x : Str} {l : List Nat} {k : Nat} {pos : Pos} (hx : x = ⟨l.toArray⟩) : RefE g prog cx n (.Constant (.str x) k pos) (AM.ret (.str l)) :=
 fun _ V st s _ _ I _ => wpAny_Constant_str ⟨_, st, V, rfl, ⟨s.toks, by rw [hx]⟩, I.tok _, Ext.refl _ _ _⟩
theorem qn1 {k : Nat} {pos : Pos} : RefE g prog cx n (.Constant .none k pos) (AM.ret .none) :=
 fun _ V st s _ _ I _ => wpAny_Constant_none ⟨_, st, V, rfl, rfl, I, Ext.refl _ _ _⟩
theorem zj4 {b : Bool} {k : Nat} {pos : Pos} : RefE g prog cx n (.Constant (.bool b) k pos) (AM.ret (.bool b)) :=
 fun _ V st s _ _ I _ => wpAny_Constant_bool ⟨_, st, V, rfl, rfl, I, Ext.refl _ _ _⟩
noncomputable def bin2 (f f' : AM AV) (op : AV -> AV -> AM AV) : AM AV := f.bind fun a => f'.bind fun b => op a b
noncomputable def OpOk (g : Gl) (prog : Program) (cx : Cx) (n : Nat) (t : Value -> Value -> Sem Value) (op : AV -> AV -> AM AV) : Prop :=
 ∀ a b u v, RefX g prog cx n (fun V => repV g.ν V a u /\ repV g.ν V b v) (repV g.ν) (t u v) (op a b)
theorem qf0 {l r : Expr} {op : Operator} {pos : Pos} {f f' : AM AV} {o : AV -> AV -> AM AV} (h1 : RefE g prog cx n l f) (h2 : RefE g prog cx n r f') (h3 : OpOk g prog cx n (binaryOp op) o) : RefE g prog cx n (.BinOp l op r pos) (bin2 f f' o) := by
 refine RefW.toX (fun A Q E s h => wpAny_BinOp h) ?_
 refine RefW.nest Mono.true h1 fun a u => RefW.nest (Mono.and Mono.true (z6q _ _ _)) (h2.weak fun _ _ => trivial) fun b v => ((h3 a b u v).toW).weak fun _ h => ⟨h.1.2, h.2⟩
theorem jn2 {l r : Expr} {op : CmpOp} {pos : Pos} {f f' : AM AV} {o : AV -> AV -> AM AV} (hm : behindInMarks op r = false) (h1 : RefE g prog cx n l f) (h2 : RefE g prog cx n r f') (h3 : OpOk g prog cx n (compareOp op) o) : RefE g prog cx n (.Compare l [op] [r] pos) (bin2 f f' o) := by
 refine RefW.toX (fun A Q E s h => wpAny_Compare1 h hm) ?_
 refine RefW.nest Mono.true h1 fun a u => RefW.nest (Mono.and Mono.true (z6q _ _ _)) (h2.weak fun _ _ => trivial) fun b v => ((h3 a b u v).toW).weak fun _ h => ⟨h.1.2, h.2⟩
noncomputable def xh2 (g : Gl) (prog : Program) (cx : Cx) (n : Nat) (tr : AV -> AM Bool) : Prop := ∀ a u, RefX g prog cx n (fun V => repV g.ν V a u) eqR (truthy u) (tr a)
theorem v5q {l r : Expr} {op : CmpOp} {pos : Pos} {f f' : AM AV} {o : AV -> AV -> AM AV} {tr : AV -> AM Bool} (hm : behindInMarks op r = false) (h1 : RefE g prog cx n l f) (h2 : RefE g prog cx n r f') (h3 : OpOk g prog cx n (compareOp op) o) (ht : xh2 g prog cx n tr) :
 RefT g prog cx n (.Compare l [op] [r] pos) (f.bind fun a => f'.bind fun b => (o a b).bind tr) := by
 refine RefW.toX (fun A Q E s h => wpAny_isTrue_Compare1 h hm) ?_
 refine RefW.nest Mono.true h1 fun a u => RefW.nest (Mono.and Mono.true (z6q _ _ _)) (h2.weak fun _ _ => trivial) fun b v => ?_
 exact RefW.nest (Mono.and (Mono.and Mono.true (z6q _ _ _)) (z6q _ _ _)) ((h3 a b u v).weak fun _ h => ⟨h.1.2, h.2⟩) fun c x => ((ht c x).toW).weak fun _ h => h.2
theorem za6 {e : Expr} {f : AM AV} {tr : AV -> AM Bool} (he : isTrue e cx.env (eval e cx.env) = (do let v <- eval e cx.env; standAt e.pos; holding [v] (truthy v))) (h1 : RefE g prog cx n e f) (ht : xh2 g prog cx n tr) : RefT g prog cx n e (f.bind tr) := by
 refine RefW.toX (fun A Q E s h => wpAny_isTrue_value h he) ?_
 exact RefW.nest Mono.true h1 fun c x => ((ht c x).toW).weak fun _ h => h.2
theorem qo6 {t x y : Expr} {pos : Pos} {ft : AM Bool} {f f' : AM AV} (h0 : RefT g prog cx n t ft) (h1 : RefE g prog cx n x f) (h2 : RefE g prog cx n y f') : RefE g prog cx n (.IfExp t x y pos) (ft.bind fun b => match b with | true => f | false => f') := by
 refine RefW.toX (fun A Q E s h => wpAny_IfExp h) ?_
 refine RefW.nest Mono.true h0 fun b v => ?_
 intro A V st s hA hp I hb Q E hq he
 obtain ⟨_, hbv⟩ := hp
 subst hbv
 induction b with
 | true => simpa using (RefX.toW h1) A V st s hA trivial I hb Q E hq he
 | false => simpa using (RefX.toW h2) A V st s hA trivial I hb Q E hq he
noncomputable def qv0 : List Addr -> Unit -> Unit -> Prop := fun _ _ _ => True
noncomputable def q7q (i : Nat) (a : AV) : AM Unit := fun st => Bool.rec (motive := fun _ => Out Unit) .bad (.ok () { st with loc := st.loc.set i (some a) }) (Nat.blt i st.loc.length)
noncomputable def qc9 (j : Nat) (a : AV) : AM Unit := fun st => match st.cel[j]? with
 | some k => match st.H.t.get k with
  | some (.cell _) => match Nat.blt k z5q with
   | true => .ok () { st with H := st.H.set k (.cell (some a)) }
   | false => .bad
  | _ => .bad
 | none => .bad
noncomputable def StOk (g : Gl) (prog : Program) (cx : Cx) (n : Nat) (t : Value -> Sem Unit) (f : AV -> AM Unit) : Prop := ∀ a u, RefX g prog cx n (fun V => repV g.ν V a u) qv0 (t u) (f a)
theorem q5q {x : Str} {i : Nat} (hi : cx.nm[i]? = some x) (hu : ∀ (j : Nat), cx.nm[j]? = some x -> j = i) (hk : cx.env.scope.kind = .function) (hl : cx.env.kindOf x = some .local) : StOk g prog cx n (storeName cx.env x) (q7q i) := by
 intro a u A V st s hA hp I hb
 unfold q7q at hb ⊢
 induction h1 : Nat.blt i st.loc.length with
 | false => rw [h1] at hb; exact q3q hb
 | true =>
  have hlt : i < st.loc.length := w5z h1
  obtain ⟨m, hm, hr⟩ := I.loc
  refine wpAny_storeName_local hl hm (fun h' hn hs => ?_) (by rw [hk]; rfl)
  have Z := I.store (s.toks + 1) (loc' := st.loc.set i (some a)) hn hs.2 (fun j y hj => ?_)
  . exact ⟨(), _, V, rfl, trivial, Z.1, Z.2⟩
  . by_cases q : y = x
    . subst q
      have := hu j hj
      subst this
      rw [List.getElem?_set_self hlt]
      simp only [if_true, Option.join]
      exact hp
    . have hji : i ≠ j := fun z => q (by rw [z, hj] at hi; exact w4z hi)
      rw [List.getElem?_set_ne hji]
      simp only [if_neg q]
      exact hr j y hj
theorem u6q {x : Str} {j : Nat} (hj : cx.cn[j]? = some x) (hk : cx.env.scope.kind = .function) (hl : cx.env.kindOf x = some .cell) : StOk g prog cx n (storeName cx.env x) (qc9 j) := by
 intro a u A V st s hA hp I hb
 unfold qc9 at hb ⊢
 induction h1 : st.cel[j]? with
 | none => rw [h1] at hb; exact q3q hb
 | some k =>
  rw [h1] at hb
  dsimp only at hb ⊢
  induction h2 : st.H.t.get k with
  | none => rw [h2] at hb; exact q3q hb
  | some ao =>
   rw [h2] at hb
   obtain ⟨v, rfl⟩ : ∃ v, ao = .cell v := by induction ao <;> first | exact ⟨_, rfl⟩ | exact q3q hb
   dsimp only at hb ⊢
   induction h3 : Nat.blt k z5q with
   | false => rw [h3] at hb; exact q3q hb
   | true =>
    obtain ⟨c, w, o, e1, e2, e3, e4, e5⟩ := I.celv hj h1 h2
    unfold storeName
    simp only [hl, hk]
    refine w0z (wpAny_cellOf e1 ?_)
    unfold cellSet
    refine w0z (wpAny_load e4 ?_)
    rw [e5]
    refine wpAny_update e4 ?_
    have Z := I.upd s.toks (i := k) (ao := .cell (some a)) e2 (fun b hb => Heap.get?_update_other s.heap (fun o => { o with data := .cell (some u) }) (Ne.symm hb)) (Heap.get?_update_self _ e4 rfl) ⟨some u, hp, rfl⟩ h3
    exact ⟨(), _, V, rfl, trivial, Z.1, Z.2⟩
theorem x1q : RefB g prog cx n [] (AM.ret .next) := fun _ V st s _ _ I _ => wpAny_execs_nil ⟨AF.next, st, V, rfl, rfl, I, Ext.refl _ _ _⟩
noncomputable def seqM (f f' : AM AF) : AM AF := f.bind fun x => AF.rec (motive := fun _ => AM AF) f' (AM.ret .brk) (AM.ret .cont) (fun v => AM.ret (.ret v)) x
theorem q2q {a : Stmt} {r : List Stmt} {f f' : AM AF} (h : RefS g prog cx n a f) (h' : RefB g prog cx n r f') : RefB g prog cx n (a :: r) (seqM f f') := by
 refine RefW.toX (fun A Q E s h => wpAny_execs_cons h) ?_
 refine RefW.nest (K := fun (f : Flow) A (Q : Flow -> Shared -> Prop) E s' => match f with | .next => wpAny (model prog g.w) A (execs r cx.env) Q E s' | f => Q f s') Mono.true h fun x v => ?_
 intro A V st s hA hp I hb Q E hq he
 obtain ⟨_, hr⟩ := hp
 induction x with
 | next => subst hr; exact (RefX.toW h') A V st s hA trivial I hb Q E hq he
 | brk => subst hr; exact hq _ _ ⟨AF.brk, st, V, rfl, rfl, I, Ext.refl _ _ _⟩
 | cont => subst hr; exact hq _ _ ⟨AF.cont, st, V, rfl, rfl, I, Ext.refl _ _ _⟩
 | ret a => obtain ⟨u, rfl, hu⟩ := hr; exact hq _ _ ⟨AF.ret a, st, V, rfl, ⟨u, rfl, hu⟩, I, Ext.refl _ _ _⟩
noncomputable def retM (f : AM AV) : AM AF := f.bind fun a => AM.ret (.ret a)
theorem qi9 {e : Expr} {pos : Pos} {f : AM AV} (h : RefE g prog cx n e f) : RefS g prog cx n (.Return (some e) pos) (retM f) := by
 refine RefW.toX (fun A Q E s h => wpAny_Return_some h) ?_
 exact RefW.nest (K := fun v _ (Q : Flow -> Shared -> Prop) _ s => Q (.ret v) s) Mono.true h fun a v _ V st s _ hp I _ _ _ hq _ => hq _ _ ⟨AF.ret a, st, V, rfl, ⟨v, rfl, hp.2⟩, I, Ext.refl _ _ _⟩
theorem jm7 {pos : Pos} : RefS g prog cx n (.Break pos) (AM.ret .brk) := fun _ V st s _ _ I _ => wpAny_Break ⟨AF.brk, st, V, rfl, rfl, I, Ext.refl _ _ _⟩
theorem jm6 {pos : Pos} : RefS g prog cx n (.Continue pos) (AM.ret .cont) := fun _ V st s _ _ I _ => wpAny_Continue ⟨AF.cont, st, V, rfl, rfl, I, Ext.refl _ _ _⟩
noncomputable def ifM (t : AM Bool) (f f' : AM AF) : AM AF := t.bind fun b => Bool.rec (motive := fun _ => AM AF) f' f b
theorem S_if {t : Expr} {x y : List Stmt} {pos : Pos} {ft : AM Bool} {f f' : AM AF} (h0 : RefT g prog cx n t ft) (h1 : RefB g prog cx n x f) (h2 : RefB g prog cx n y f') : RefS g prog cx n (.If t x y pos) (ifM ft f f') := by
 refine RefW.toX (fun A Q E s h => wpAny_If h) ?_
 refine RefW.nest Mono.true h0 fun b v => ?_
 intro A V st s hA hp I hb Q E hq he
 obtain ⟨_, hbv⟩ := hp
 subst hbv
 induction b with
 | true => simpa using (RefX.toW h1) A V st s hA trivial I hb Q E hq he
 | false => simpa using (RefX.toW h2) A V st s hA trivial I hb Q E hq he
noncomputable def asgM (f : AM AV) (p : AV -> AM Unit) : AM AF := f.bind fun a => (p a).bind fun _ => AM.ret .next
theorem u8q {x : Str} {px pos : Pos} {e : Expr} {f : AM AV} {p : AV -> AM Unit} (hs : swapsWith e (some (.Name x px)) pos.line cx.env = pure false) (h : RefE g prog cx n e f) (hp : StOk g prog cx n (storeName cx.env x) p) :
 RefS g prog cx n (.Assign [.Name x px] e pos) (asgM f p) := by
 refine RefW.toX (fun A Q E s h => wpAny_Assign_Name h hs) ?_
 refine RefW.nest Mono.true h fun a u => ?_
 exact RefW.nest (K := fun _ _ (Q : Flow -> Shared -> Prop) _ s => Q .next s) (Mono.and Mono.true (z6q _ _ _)) ((hp a u).weak fun _ h => h.2) fun _ _ _ V st s _ _ I _ _ _ hq _ => hq _ _ ⟨AF.next, st, V, rfl, rfl, I, Ext.refl _ _ _⟩
noncomputable def TgOk (g : Gl) (prog : Program) (cx : Cx) (n : Nat) (t : Expr) (f : AV -> AM Unit) : Prop := StOk g prog cx n (assign t cx.env) f
theorem x2q {x : Str} {px : Pos} {p : AV -> AM Unit} (hp : StOk g prog cx n (storeName cx.env x) p) : TgOk g prog cx n (.Name x px) p :=
 fun a u => RefX.of_wp (fun _ _ _ _ h => wpAny_assign_Name h) (hp a u)
noncomputable def noexc {β : Type} (f : AM β) : AM β := fun st => Out.rec (motive := fun _ => Out β) (fun b st' => .ok b st') (fun _ _ => .bad) .bad (f st)
noncomputable def optR (ν : Vl) : List Addr -> Option AV -> Option Value -> Prop := w5q ν
noncomputable def forM (it : AV) (nx : AV -> AM (Option AV)) (tg : AV -> AM Unit) (body : AM AF) : Nat -> AM AF
 | 0 => AM.fail
 | k + 1 => noexc ((nx it).bind fun r => match r with
  | none => AM.ret .next
  | some v => (tg v).bind fun _ => body.bind fun x => match x with
   | .next => forM it nx tg body k
   | .cont => forM it nx tg body k
   | .brk => AM.ret .next
   | .ret v => AM.ret (.ret v))
noncomputable def NxOk (g : Gl) (prog : Program) (cx : Cx) (n : Nat) (f : AV -> AM (Option AV)) : Prop := ∀ a u, RefX g prog cx n (fun V => repV g.ν V a u) (optR g.ν) (pyNext u) (f a)
noncomputable def ItOk (g : Gl) (prog : Program) (cx : Cx) (n : Nat) (f : AV -> AM AV) : Prop := ∀ a u, RefX g prog cx n (fun V => repV g.ν V a u) (repV g.ν) (pyIter u) (f a)
theorem RefX.noexc {P : List Addr -> Prop} {α β : Type} {R : List Addr -> β -> α -> Prop} {t : Sem α} {f : AM β} (h : RefX g prog cx n P R t f) : ∀ A V st s, AOk cx n A -> P V -> Inv g cx V st s -> noexc f st ≠ .bad ->
 wpAny (model prog g.w) A t (QOk g cx V s R (noexc f st)) (fun _ _ => False) s := by
 intro A V st s hA hp I hb
 unfold Mine.noexc at hb ⊢
 induction e : f st with
 | bad => rw [e] at hb; exact q3q hb
 | exc k st' => rw [e] at hb; exact q3q hb
 | ok b st' =>
  have := h A V st s hA hp I (by rw [e]; exact fun z => nomatch z)
  rw [e] at this
  refine w3z this (fun _ _ q => q) fun v s' q => ?_
  obtain ⟨_, _, _, z, _⟩ := q
  exact qj7 z
theorem qa2 {β γ : Type} {f : AM β} {k : β -> AM γ} {st : St} (h : noexc (f.bind k) st ≠ .bad) : noexc f st ≠ .bad := by
 intro e
 apply h
 unfold noexc at e ⊢
 unfold AM.bind
 induction q : f st with
 | bad => rfl
 | exc k st' => rfl
 | ok b st' => rw [q] at e; exact qt8 e
theorem v8q {β γ : Type} {f : AM β} {k : β -> AM γ} {st : St} {b : β} {st' : St} (h : noexc f st = .ok b st') : noexc (f.bind k) st = noexc (k b) st' := by
 unfold noexc at h ⊢
 unfold AM.bind
 induction q : f st with
 | bad => rw [q] at h; exact j1q h
 | exc k st' => rw [q] at h; exact j1q h
 | ok bA st₁ => rw [q] at h; obtain ⟨rfl, rfl⟩ := z7q h; rfl
theorem qn6 {β : Type} {f : AM β} {st : St} : noexc (noexc f) st = noexc f st := by
 unfold noexc
 cases f st <;> rfl
theorem S_for {target iter : Expr} {body : List Stmt} {pos : Pos} {f : AM AV} {it : AV -> AM AV} {nx : AV -> AM (Option AV)} {tg : AV -> AM Unit} {fb : AM AF} (K : Nat)
 (hs : ∀ x, foldedSetIterable iter cx.env x = pure x) (hg : ∀ r v, letOwnedTupleGo target r v = pure ())
 (h : RefE g prog cx n iter f) (h1 : ItOk g prog cx n it) (h2 : NxOk g prog cx n nx) (h3 : TgOk g prog cx n target tg) (h4 : RefB g prog cx n body fb) :
 RefS g prog cx n (.For target iter body [] pos) (f.bind fun a => (it a).bind fun b => forM b nx tg fb K) := by
 refine RefW.toX (fun A Q E s h => wpAny_For h hs) ?_
 refine RefW.nest Mono.true h fun a u => ?_
 refine RefW.nest (Mono.and Mono.true (z6q _ _ _)) ((h1 a u).weak fun _ h => h.2) fun b w => ?_
 intro A V st s hA hp I hb Q E hq he
 obtain ⟨_, hw⟩ := hp
 -- the loop's invariant: what is left to do gives what the whole gives
 refine codeAny_forLoop_any (I := fun k s' => ∃ ρ' st', repV g.ν ρ' b w /\ Inv g cx ρ' st' s' /\ Ext cx V s.heap ρ' s'.heap /\ forM b nx tg fb K st = forM b nx tg fb k st') ?_ K ⟨V, st, hw, I, Ext.refl _ _ _, rfl⟩
 rintro k s₁ ⟨VA, st₁, hwA, I₁, XA, eA⟩
 induction k with
 | zero => exact absurd (eA.trans rfl) hb
 | succ k =>
  have hb' := eA ▸ hb
  have hb1 : noexc (nx b) st₁ ≠ .bad := qa2 hb'
  refine w3z ((h2 b w).noexc A VA st₁ s₁ hA hwA I₁ hb1) ?_ (fun _ _ z => z.elim)
  rintro r sB ⟨c, stB, VB, eB, hrB, IB, XB⟩
  have fB := v8q (k := fun r => match r with
   | none => AM.ret AF.next
   | some v => (tg v).bind fun _ => fb.bind fun x => match x with
    | .next => forM b nx tg fb k
    | .cont => forM b nx tg fb k
    | .brk => AM.ret .next
    | .ret v => AM.ret (.ret v)) eB
  have hX := XA.trans XB
  induction r with
  | none =>
   induction c with
   | some _ => exact hrB.elim
   | none =>
    refine wpAny_execs_nil ?_
    exact hq _ _ ⟨.next, stB, VB, eA.trans fB, rfl, IB, hX⟩
  | some v =>
   induction c with
   | none => exact hrB.elim
   | some c =>
    dsimp only
    rw [hg]
    refine w2z ?_
    have hb2 : noexc ((tg c).bind fun _ => fb.bind fun x => match x with
     | .next => forM b nx tg fb k
     | .cont => forM b nx tg fb k
     | .brk => AM.ret .next
     | .ret v => AM.ret (.ret v)) stB ≠ .bad := by
     intro z
     exact hb' (fB.trans z)
    refine w3z ((h3 c v).noexc A VB stB sB hA hrB IB (qa2 hb2)) ?_ (fun _ _ z => z.elim)
    rintro _ sC ⟨_, stC, VC, e₃, _, IC, XC⟩
    have fC := v8q (k := fun _ => fb.bind fun x => match x with
     | .next => forM b nx tg fb k
     | .cont => forM b nx tg fb k
     | .brk => AM.ret .next
     | .ret v => AM.ret (.ret v)) e₃
    have hb3 := fC ▸ hb2
    refine w3z (RefX.noexc h4 A VC stC sC hA trivial IC (qa2 hb3)) ?_ (fun _ _ z => z.elim)
    rintro fl sD ⟨x, stD, VD, eD, hrD, ID, XD⟩
    have fD := v8q (k := fun x => match x with
     | .next => forM b nx tg fb k
     | .cont => forM b nx tg fb k
     | .brk => AM.ret .next
     | .ret v => AM.ret (.ret v)) eD
    have hX4 := (hX.trans XC).trans XD
    have hpre : Pre VA VD := (XB.pre.trans XC.pre).trans XD.pre
    have whole := eA.trans (fB.trans (fC.trans fD))
    have hno : noexc (forM b nx tg fb k) stD = forM b nx tg fb k stD := by
     induction k with
     | zero => rfl
     | succ k => exact qn6
    induction x with
    | next => subst hrD; exact ⟨k, Nat.lt_succ_self k, VD, stD, hwA.mono hpre, ID, hX4, whole.trans hno⟩
    | cont => subst hrD; exact ⟨k, Nat.lt_succ_self k, VD, stD, hwA.mono hpre, ID, hX4, whole.trans hno⟩
    | brk => subst hrD; exact hq _ _ ⟨.next, stD, VD, whole, rfl, ID, hX4⟩
    | ret a => obtain ⟨v', rfl, hv'⟩ := hrD; exact hq _ _ ⟨.ret a, stD, VD, whole, ⟨v', rfl, hv'⟩, ID, hX4⟩
noncomputable def qd8 (t : AM Bool) (body els : AM AF) (K : Nat) : AM AF := Nat.rec (motive := fun _ => AM AF) AM.fail (fun _ ih => noexc (t.bind fun b => Bool.rec (motive := fun _ => AM AF) els
 (body.bind fun x => AF.rec (motive := fun _ => AM AF) ih (AM.ret .next) ih (fun v => AM.ret (.ret v)) x) b)) K
theorem qs8 {t : AM Bool} {body els : AM AF} {k : Nat} {st : St} : noexc (qd8 t body els k) st = qd8 t body els k st := by
 induction k with
 | zero => rfl
 | succ k => exact qn6
theorem xh3 {t : Expr} {body els : List Stmt} {pos : Pos} {ft : AM Bool} {fb fe : AM AF} (K : Nat) (h1 : RefT g prog cx n t ft) (h2 : RefB g prog cx n body fb) (h3 : RefB g prog cx n els fe) :
 RefS g prog cx n (.While t body els pos) (qd8 ft fb fe K) := by
 intro A V st s hA hp I hb
 refine wpAny_While ?_
 refine codeAny_whileLoop (I := fun k s' => ∃ ρ' st', Inv g cx ρ' st' s' /\ Ext cx V s.heap ρ' s'.heap /\ qd8 ft fb fe K st = qd8 ft fb fe k st') ?_ K ⟨V, st, I, Ext.refl _ _ _, rfl⟩
 rintro k s₁ ⟨VA, st₁, I₁, XA, eA⟩
 induction k with
 | zero => exact absurd (eA.trans rfl) hb
 | succ k =>
  have hb' := eA ▸ hb
  refine w3z (RefX.noexc h1 A VA st₁ s₁ hA trivial I₁ (qa2 hb')) ?_ (fun _ _ z => z.elim)
  rintro r sB ⟨c, stB, VB, eB, hrB, IB, XB⟩
  cases hrB
  have fB := v8q (k := fun b => Bool.rec (motive := fun _ => AM AF) fe (fb.bind fun x => AF.rec (motive := fun _ => AM AF) (qd8 ft fb fe k) (AM.ret .next) (qd8 ft fb fe k) (fun v => AM.ret (.ret v)) x) b) eB
  have hX := XA.trans XB
  induction r with
  | false =>
   simp only [Bool.false_eq_true, if_false]
   have hb2 : noexc fe stB ≠ .bad := fun z => hb' (fB.trans z)
   refine w3z (RefX.noexc h3 A VB stB sB hA trivial IB hb2) ?_ (fun _ _ z => z.elim)
   rintro fl sC ⟨x, stC, VC, e₃, hrC, IC, XC⟩
   exact ⟨x, stC, VC, eA.trans (fB.trans e₃), hrC, IC, hX.trans XC⟩
  | true =>
   simp only [if_true]
   have hb2 : noexc (fb.bind fun x => AF.rec (motive := fun _ => AM AF) (qd8 ft fb fe k) (AM.ret .next) (qd8 ft fb fe k) (fun v => AM.ret (.ret v)) x) stB ≠ .bad := fun z => hb' (fB.trans z)
   refine w3z (RefX.noexc h2 A VB stB sB hA trivial IB (qa2 hb2)) ?_ (fun _ _ z => z.elim)
   rintro fl sC ⟨x, stC, VC, e₃, hrC, IC, XC⟩
   have fC := v8q (k := fun x => AF.rec (motive := fun _ => AM AF) (qd8 ft fb fe k) (AM.ret .next) (qd8 ft fb fe k) (fun v => AM.ret (.ret v)) x) e₃
   have whole := eA.trans (fB.trans fC)
   have hX3 := hX.trans XC
   induction x with
   | next => subst hrC; exact ⟨k, Nat.lt_succ_self k, VC, stC, IC, hX3, whole.trans qs8⟩
   | cont => subst hrC; exact ⟨k, Nat.lt_succ_self k, VC, stC, IC, hX3, whole.trans qs8⟩
   | brk => subst hrC; exact ⟨.next, stC, VC, whole, rfl, IC, hX3⟩
   | ret a => obtain ⟨v', rfl, hv'⟩ := hrC; exact ⟨.ret a, stC, VC, whole, ⟨v', rfl, hv'⟩, IC, hX3⟩
noncomputable def q8q : List (AM AV) -> AM (List AV)
 | [] => AM.ret []
 | f :: r => f.bind fun a => (q8q r).bind fun l => AM.ret (a :: l)
noncomputable def qc0 (g : Gl) (prog : Program) (cx : Cx) (n : Nat) : List Expr -> List (AM AV) -> Prop
 | [], [] => True
 | e :: r, f :: fr => RefE g prog cx n e f /\ starEach (e :: r) cx.env = (false, eval e cx.env) :: starEach r cx.env /\ qc0 g prog cx n r fr
 | _, _ => False
theorem q4q : qc0 g prog cx n [] [] := trivial
theorem q1q {e : Expr} {r : List Expr} {f : AM AV} {fr : List (AM AV)} (h : RefE g prog cx n e f) (hs : starEach (e :: r) cx.env = (false, eval e cx.env) :: starEach r cx.env) (h' : qc0 g prog cx n r fr) : qc0 g prog cx n (e :: r) (f :: fr) := ⟨h, hs, h'⟩
theorem qb2 {pos : Pos} : ∀ {es : List Expr} {fs : List (AM AV)}, qc0 g prog cx n es fs -> RefX g prog cx n TT (reps g.ν) (spliced (backTo pos (starEach es cx.env))) (q8q fs)
 | [], [], _ => fun _ V st s _ _ I _ => wpAny_items_nil ⟨[], st, V, rfl, trivial, I, Ext.refl _ _ _⟩
 | [], _ :: _, h => h.elim
 | _ :: _, [], h => h.elim
 | e :: r, f :: fr, h => by
  refine RefW.toX (fun A Q E s h' => wpAny_items_cons h' h.2.1) ?_
  refine RefW.nest Mono.true h.1 fun a v => ?_
  refine RefW.nest (K := fun vs _ (Q : List Value -> Shared -> Prop) _ s => Q (v :: vs) s) (Mono.and Mono.true (z6q _ _ _)) ((qb2 h.2.2).weak fun _ _ => trivial) fun l vs => ?_
  intro A V st s hA hp I hb Q E hq he
  exact hq _ _ ⟨a :: l, st, V, rfl, ⟨hp.1.2, hp.2⟩, I, Ext.refl _ _ _⟩
noncomputable def newM (a : AO) : AM AV := fun st => Bool.rec (motive := fun _ => Out AV) .bad (.ok (.ref st.H.n) { st with H := st.H.push a }) (Nat.blt st.H.n z5q)
theorem qi1 {P : List Addr -> Prop} {ao : AO} {o : Obj} (ho : ∀ V, P V -> ∀ a, j2q g (V ++ [a]) o ao) (hf : o.isFreed = false) :
 ∀ A V st s, AOk cx n A -> P V -> Inv g cx V st s -> newM ao st ≠ .bad -> QOk g cx V s (repV g.ν) (newM ao st) (Value.ref s.heap.objs.size) { s with heap := s.heap.push o } := by
 intro A V st s hA hp I hb
 unfold newM at hb ⊢
 induction h1 : Nat.blt st.H.n z5q with
 | false => rw [h1] at hb; exact q3q hb
 | true =>
  have hnone : s.heap.get? s.heap.objs.size = none := by
   induction q : s.heap.get? s.heap.objs.size with
   | none => rfl
   | some o => exact absurd (Heap.lt_size q) (Nat.lt_irrefl _)
  have Z := I.alloc s.toks (h' := s.heap.push o) (a := s.heap.objs.size) (o := o) (ao := ao) hnone (Heap.get?_push_size _ hf) (fun b o' e => w6z _ e) (ho V hp _) h1
  refine ⟨.ref st.H.n, _, _, rfl, ⟨s.heap.objs.size, ?_, rfl⟩, Z.1, Z.2⟩
  rw [I.size]; simp
noncomputable def v0q {β : Type} (l : List AV) (f : AM β) : AM β := fun st => Bool.rec (motive := fun _ => Out β) .bad (f st) (Nat.ble l.length 100000)
theorem k4q {l : List AV} {vs : List Value} {ν : Vl} {V : List Addr} (h : Nat.ble l.length 100000 = true) (hr : reps ν V l vs) : vs.length <= sizeLine := by
 rw [<- hr.length]
 have := w5z h
 have h2 : (100000 : Nat) <= sizeLine := by decide
 exact Nat.le_trans this h2
noncomputable def u9q (fs : List (AM AV)) : AM AV := (q8q fs).bind fun l => v0q l (newM (.list l))
noncomputable def qm2 (fs : List (AM AV)) : AM AV := (q8q fs).bind fun l => v0q l (newM (.tuple l))
theorem k0q {es : List Expr} {pos : Pos} {fs : List (AM AV)} (h : qc0 g prog cx n es fs) : RefE g prog cx n (.List es pos) (u9q fs) := by
 refine RefW.toX (fun A Q E s h' => wpAny_List h') ?_
 refine RefW.nest (K := fun vs _ (Q : VP) _ s₁ => vs.length <= sizeLine /\ Q (.ref s₁.heap.objs.size) { s₁ with heap := s₁.heap.push { cls := .type "list", data := .seq vs.toArray } }) Mono.true (qb2 h) fun l vs => ?_
 intro A V st s hA hp I hb Q E hq he
 unfold v0q at hb hq
 induction h1 : Nat.ble l.length 100000 with
 | false => rw [h1] at hb; exact q3q hb
 | true =>
  rw [h1] at hb hq
  exact ⟨k4q h1 hp.2, hq _ _ (qi1 (P := fun V => reps g.ν V l vs) (ao := .list l) (o := { cls := .type "list", data := .seq vs.toArray }) (fun V hr a => ⟨vs, 0, hr.mono ⟨[a], rfl⟩, rfl⟩) rfl A V st s hA hp.2 I hb)⟩
theorem qo5 {es : List Expr} {k : Nat} {pos : Pos} {fs : List (AM AV)} (h : qc0 g prog cx n es fs) : RefE g prog cx n (.Tuple es k pos) (qm2 fs) := by
 refine RefW.toX (fun A Q E s h' => wpAny_Tuple h') ?_
 refine RefW.nest (K := fun vs _ (Q : VP) _ s₁ => vs.length <= sizeLine /\ Q (.ref s₁.heap.objs.size) { s₁ with heap := s₁.heap.push { cls := .type "tuple", data := .seq vs.toArray } }) Mono.true (qb2 h) fun l vs => ?_
 intro A V st s hA hp I hb Q E hq he
 unfold v0q at hb hq
 induction h1 : Nat.ble l.length 100000 with
 | false => rw [h1] at hb; exact q3q hb
 | true =>
  rw [h1] at hb hq
  exact ⟨k4q h1 hp.2, hq _ _ (qi1 (P := fun V => reps g.ν V l vs) (ao := .tuple l) (o := { cls := .type "tuple", data := .seq vs.toArray }) (fun V hr a => ⟨vs, 0, hr.mono ⟨[a], rfl⟩, rfl⟩) rfl A V st s hA hp.2 I hb)⟩
inductive At {α : Type} : List α -> Nat -> α -> Prop
 | zero {x : α} {l : List α} : At (x :: l) 0 x
 | succ {x y : α} {l : List α} {i : Nat} : At l i x -> At (y :: l) (i + 1) x
theorem At.get {α : Type} {l : List α} {i : Nat} {x : α} (h : At l i x) : l[i]? = some x := by
 induction h with
 | zero => rfl
 | succ _ ih => simpa using ih
noncomputable def qj6 (as : List AV) (k : Nat) : List (Option AV) := as.map some ++ List.replicate k none
noncomputable def jf0 (p k : Nat) (fb : AM AF) (as : List AV) : AM AV := fun st => match Nat.beq as.length p with
 | false => .bad
 | true => match fb ⟨st.H, qj6 as k, []⟩ with
  | .ok (.ret v) st' => .ok v { st with H := st'.H }
  | .ok .next st' => .ok .none { st with H := st'.H }
  | _ => .bad
noncomputable def FnOk (g : Gl) (prog : Program) (d : Nat) (u : Value) (F : List AV -> AM AV) : Prop :=
 ∀ cx n, d <= n -> cx.q = true -> ∀ as vs, RefX g prog cx n (fun V => reps g.ν V as vs) (repV g.ν) (call u vs) (F as)
theorem qm1 : ∀ (ps : List Str) (vs : List Value) (i : Nat) (x : Str), ps.Nodup -> ps.length = vs.length -> ps[i]? = some x -> (ps.zip vs).reverse.lookup x = vs[i]? := by
 intro ps vs i x hn hl hx
 have hi : i < ps.length := (List.getElem?_eq_some_iff.mp hx).1
 have hv : i < vs.length := hl ▸ hi
 have hmem : (x, vs[i]) ∈ (ps.zip vs) := by
  have : (ps.zip vs)[i]? = some (x, vs[i]) := by
   rw [List.getElem?_zip_eq_some]; exact ⟨hx, by simp [hv]⟩
  exact w7z this
 have hnd : ((ps.zip vs).reverse.map (·.1)).Nodup := by
  rw [List.map_reverse, List.map_fst_zip (by exact Nat.le_of_eq (by assumption))]
  exact (List.reverse_perm ps).nodup_iff.mpr hn
 have : ∀ (l : List (Str × Value)), (l.map (·.1)).Nodup -> (x, vs[i]) ∈ l -> l.lookup x = some vs[i] := by
  intro l
  induction l with
  | nil => intro _ h; cases h
  | cons a l ih =>
   intro h1 h2
   obtain ⟨k, v⟩ := a
   rw [List.lookup_cons]
   rcases List.mem_cons.mp h2 with e | h2
   . cases e; simp
   . have h1' := List.nodup_cons.mp h1
     have hne : x ≠ k := fun z => h1'.1 (by have h3 : x ∈ l.map (·.1) := List.mem_map.mpr ⟨_, h2, rfl⟩; rw [<- z]; exact h3)
     have : (x == k) = false := by simpa using hne
     rw [this]
     exact ih h1'.2 h2
 rw [this _ hnd (List.mem_reverse.mpr hmem)]
 simp [hv]
theorem qs7 (ps : List Str) (vs : List Value) (x : Str) (h : x ∉ ps) : (ps.zip vs).reverse.lookup x = none := by
 have : ∀ (l : List (Str × Value)), (∀ p ∈ l, p.1 ≠ x) -> l.lookup x = none := by
  intro l
  induction l with
  | nil => intro _; rfl
  | cons a l ih =>
   intro h1
   obtain ⟨k, v⟩ := a
   rw [List.lookup_cons]
   have : (x == k) = false := by simpa using fun z => h1 (k, v) List.mem_cons_self z.symm
   rw [this]
   exact ih fun p hp => h1 p (w9z _ hp)
 refine this _ fun p hp z => h ?_
 have := List.mem_reverse.mp hp
 obtain ⟨a, b⟩ := p
 have := (List.of_mem_zip this).1
 exact z ▸ this
theorem xx3 {ν : Vl} {V : List Addr} {as : List AV} {vs : List Value} {ps rest : List Str} (hr : reps ν V as vs) (hl : as.length = ps.length) (hn : (ps ++ rest).Nodup) (i : Nat) (x : Str) (hx : (ps ++ rest)[i]? = some x) :
 w5q ν V ((qj6 as rest.length)[i]?).join ((ps.zip vs).reverse.lookup x) := by
 have hv : ps.length = vs.length := hl ▸ hr.length
 by_cases hi : i < ps.length
 . rw [List.getElem?_append_left hi] at hx
   rw [qm1 ps vs i x (List.nodup_append.mp hn).1 hv hx]
   have ha : i < as.length := hl ▸ hi
   have : (qj6 as rest.length)[i]? = some (some as[i]) := by
    unfold qj6
    rw [List.getElem?_append_left (by simpa using ha)]
    simp [ha]
   rw [this]
   obtain ⟨v, h1, h2⟩ := hr.get (i := i) (a := as[i]) (by simp [ha])
   rw [h1]
   exact h2
 . have hx2 := hx
   rw [List.getElem?_append_right (by exact Nat.le_of_not_lt (by assumption))] at hx2
   have hmem : x ∈ rest := w7z hx2
   have hnp : x ∉ ps := fun q => (List.nodup_append.mp hn).2.2 x q x hmem rfl
   rw [qs7 ps vs x hnp]
   have hi2 : i - ps.length < rest.length := (List.getElem?_eq_some_iff.mp hx2).1
   have : (qj6 as rest.length)[i]? = some none := by
    unfold qj6
    have e1 : (as.map some).length <= i := by rw [List.length_map]; omega
    have e2 : i - (as.map some).length < rest.length := by rw [List.length_map]; omega
    rw [List.getElem?_append_right e1, List.getElem?_replicate, if_pos e2]
   rw [this]
   exact trivial
theorem xq9 (_G : GOk g) {a : Addr} {fd : FuncData} {ps rest : List Str} {as : List AV} {vs : List Value} {V : List Addr} {st : St} {s : Shared} {h₁ : Heap} {tk : Nat} {q : Bool} (I : Inv g cx V st s)
 (hk : ∀ b o, s.heap.get? b = some o -> h₁.get? b = some o) (hns : h₁.Ns s.heap.objs.size (fun x => (ps.zip vs).reverse.lookup x)) (hr : reps g.ν V as vs) (hl : as.length = ps.length) (hn : (ps ++ rest).Nodup) (hkd : fd.scope.kind = .function) :
 Inv g ⟨callEnv fd s.heap.objs.size a, ps ++ rest, [], callEnv fd s.heap.objs.size a :: cx.fr, q⟩ V ⟨st.H, qj6 as rest.length, []⟩ { s with heap := h₁, toks := tk } := by
 have hnone : s.heap.get? s.heap.objs.size = none := by
  induction q : s.heap.get? s.heap.objs.size with
  | none => rfl
  | some o => exact absurd (Heap.lt_size q) (Nat.lt_irrefl _)
 have hz := I.none_of hnone
 refine ⟨fun b o e => hk b o (I.base b o e), fun b hb => ⟨(I.own b hb).1, fun z => hz.2.2.2 ((show b = s.heap.objs.size from z) ▸ hb), fun z => ?_⟩, I.nodup, fun b hb => (I.live b hb).imp fun o e => hk b o e, fun i ao e => I.heap_keep (Pre.refl V) (fun b _ o => hk b o) e, I.size,
  ⟨_, hns, fun i x hx => xx3 hr hl hn i x hx⟩, hz.1, fun i x hx => by simp at hx, fun e he => ?_, I.gens, I.drawn, I.os, I.tabs⟩
 . obtain ⟨e, he, hf⟩ := z
   rcases List.mem_cons.mp he with rfl | he
   . exact hz.2.2.2 ((w4z hf : s.heap.objs.size = b) ▸ hb)
   . exact (I.own b hb).2.2 ⟨e, he, hf⟩
 . rcases List.mem_cons.mp he with rfl | he
   . obtain ⟨o, es, ep, h1, h2, _⟩ := hns
     exact ⟨hkd, _, o, es, ep, rfl, h1, h2, hz.1⟩
   . obtain ⟨h0, b, o, es, ep, h1, h2, h3, h4⟩ := I.frs e he
     exact ⟨h0, b, o, es, ep, h1, hk b o h2, h3, h4⟩
noncomputable def qf2 (g : Gl) (prog : Program) (u : Value) : Prop :=
 ∀ (A : Around) (pos : Pos) (first : List Value) (args : List (Bool × Sem Value)) (Q E : VP) (s : Shared), args.any (·.1) = false ->
  wpAny (model prog g.w) A (evalArgs u true args []) (fun x s₁ => (∀ b o, g.U.get? b = some o -> s₁.heap.get? b = some o) /\ wpAny (model prog g.w) A (call u (first ++ x.pos) x.kw) Q E s₁) E s ->
  wpAny (model prog g.w) A (callWith pos u first args []) Q E s
theorem w8q {a : Addr} {o : Obj} {fd : FuncData} (ho : g.U.get? a = some o) (hd : o.data = .func fd) : qf2 g prog (.ref a) :=
 fun _ _ _ _ _ _ _ _ h => callWith_function (o := o) (fd := fd) (w3z h (fun _ _ h1 => ⟨⟨h1.1 a o ho, hd⟩, h1.2⟩) fun _ _ x => x)
theorem xu1 {id : String} : qf2 g prog (.builtin id) :=
 fun _ _ _ _ _ _ _ hp h => callWith_builtin hp (w3z h (fun _ _ h1 => h1.2) fun _ _ x => x)
theorem qf7 {M : Model} {A : Around} {E : VP} {s : Shared} {f : Value} {Q : Args -> Shared -> Prop} (h : Q ⟨[], []⟩ s) : wpAny M A (evalArgs f true [] []) Q E s := by
 unfold evalArgs
 show wpAny M A (spliced [] >>= _) Q E s
 refine w0z (spliced_nil ?_)
 refine w0z (w2z ?_)
 refine w8z ?_
 exact w0z (w2z (w0z (w2z (w2z h))))
theorem w6q {pos : Pos} {e : Expr} {r : List Expr} (he : starEach (e :: r) cx.env = (false, eval e cx.env) :: starEach r cx.env) : ∃ x rest, backTo pos (starEach (e :: r) cx.env) = (false, x) :: rest /\ rest = backTo pos (starEach r cx.env) := by
 rw [he]
 exact ⟨_, _, rfl, rfl⟩
theorem u0q {pos : Pos} : ∀ {es : List Expr} {fs : List (AM AV)}, qc0 g prog cx n es fs -> (backTo pos (starEach es cx.env)).any (·.1) = false
 | [], [], _ => rfl
 | [], _ :: _, h => h.elim
 | _ :: _, [], h => h.elim
 | e :: r, f :: fr, h => by
  obtain ⟨x, rest, e1, e2⟩ := w6q (pos := pos) h.2.1
  rw [e1, e2, List.any_cons, u0q h.2.2]
  rfl
theorem qx7 {u : Value} {first : List Value} {ff : List AV} {es : List Expr} {fs : List (AM AV)} {F : List AV -> AM AV} {pos : Pos} (hk : qf2 g prog u) (hs : qc0 g prog cx n es fs)
 (hF : ∀ as vs, RefX g prog cx n (fun V => reps g.ν V as vs) (repV g.ν) (call u vs) (F as)) :
 RefX g prog cx n (fun V => reps g.ν V ff first) (repV g.ν) (callWith pos u first (backTo pos (starEach es cx.env)) []) ((q8q fs).bind fun as => F (ff ++ as)) := by
 intro A V st s hA hp I hb
 refine hk A pos first _ _ _ s (u0q hs) ?_
 have W := RefW.nest (K := fun vs A (Q : VP) E s₁ => (∀ b o, g.U.get? b = some o -> s₁.heap.get? b = some o) /\ wpAny (model prog g.w) A (call u (first ++ vs) []) Q E s₁) (P := fun V => reps g.ν V ff first) (R' := repV g.ν) (f' := fun as => F (ff ++ as))
  (fun V ρ' p h => h.mono p) ((qb2 (pos := pos) hs).weak fun _ _ => trivial) (fun as vs => fun A VA st₁ s₁ hAA hpA I₁ hbA Q E hq he => ⟨I₁.base, (hF (ff ++ as) (first ++ vs)).toW A VA st₁ s₁ hAA (reps.app hpA.1 hpA.2) I₁ hbA Q E hq he⟩)
 have Z := W A V st s hA hp I hb _ _ (fun _ _ q => q) fun _ _ q => q
 cases es with
 | nil =>
  cases fs with
  | cons => exact hs.elim
  | nil =>
   refine qf7 ?_
   -- no arguments: the model's list is empty
   have := hF (ff ++ []) (first ++ []) A V st s hA (by simpa using hp) I hb
   exact ⟨I.base, this⟩
 | cons e r =>
  cases fs with
  | nil => exact hs.elim
  | cons f fr =>
   obtain ⟨x, rest, e1, e2⟩ := w6q (pos := pos) hs.2.1
   rw [e1] at Z ⊢
   exact evalArgs_plain Z
theorem xi4 {x : Str} {p pos : Pos} {es : List Expr} {fs : List (AM AV)} {u : Value} {F : List AV -> AM AV} (hx : RefE g prog cx n (.Name x p) (AM.ret (.stat u))) (hk : qf2 g prog u) (hs : qc0 g prog cx n es fs)
 (hF : ∀ as vs, RefX g prog cx n (fun V => reps g.ν V as vs) (repV g.ν) (call u vs) (F as)) : RefE g prog cx n (.Call (.Name x p) es [] pos) ((q8q fs).bind F) := by
 intro A V st s hA hp I hb
 refine wpAny_Call_Name_kw (w3z (hx A V st s hA trivial I (fun z => nomatch z)) ?_ ?_)
 . rintro v s₁ ⟨b, st₁, VA, e, hr, I₁, XA⟩
   obtain ⟨rfl, rfl⟩ := z7q e
   subst hr
   have Z := qx7 (pos := pos) (first := []) (ff := []) hk hs hF A VA st s₁ hA trivial I₁ hb
   refine w3z Z (fun w sB q => ?_) fun w sB q => ?_
   . obtain ⟨c, stB, VB, eB, hrB, IB, XB⟩ := q
     exact ⟨c, stB, VB, eB, hrB, IB, XA.trans XB⟩
   . obtain ⟨c, stB, VB, eB, hrB, IB, XB⟩ := q
     exact ⟨c, stB, VB, eB, hrB.mono XA XB.pre, IB, XA.trans XB⟩
 . rintro v s₁ ⟨b, st₁, VA, e, _⟩
   exact qj7 e
noncomputable def BiOk (g : Gl) (prog : Program) (cx : Cx) (n : Nat) (id : String) (F : List AV -> AM AV) : Prop := ∀ as vs, RefX g prog cx n (fun V => reps g.ν V as vs) (repV g.ν) (call (.builtin id) vs) (F as)
theorem y3q {x : Str} {p pos : Pos} {es : List Expr} {fs : List (AM AV)} {id : String} {F : List AV -> AM AV} (hF : BiOk g prog cx n id F)
 (hx : RefE g prog cx n (.Name x p) (AM.ret (.stat (.builtin id)))) (hs : qc0 g prog cx n es fs) : RefE g prog cx n (.Call (.Name x p) es [] pos) ((q8q fs).bind F) :=
 xi4 hx xu1 hs hF
inductive ObjAt (g : Gl) (V : List Addr) (h : Heap) (i : Nat) (ao : AO) (u : Value) : Prop
 | mk (a : Addr) (o : Obj) (h1 : u = .ref a) (h2 : V[i]? = some a) (h3 : h.get? a = some o) (h4 : j2q g V o ao)
theorem Inv.obj {V : List Addr} {st : St} {s : Shared} (I : Inv g cx V st s) {i : Nat} {ao : AO} {u : Value} (h : st.H.t.get i = some ao) (hr : repV g.ν V (.ref i) u) :
 ObjAt g V s.heap i ao u := by
 obtain ⟨a, h1, rfl⟩ := hr
 obtain ⟨a', o, e1, e2, e3⟩ := I.heap i ao h
 rw [h1] at e1
 obtain rfl := w4z e1
 exact ⟨a, o, rfl, h1, e2, e3⟩
noncomputable def qb8 {β : Type} (i : Nat) (k : List AV -> AM β) : AM β := fun st => match st.H.t.get i with
 | some (.list xs) => k xs st
 | _ => .bad
noncomputable def setM {β : Type} (i : Nat) (a : AO) (k : AM β) : AM β := fun st => Bool.rec (motive := fun _ => Out β) .bad (k { st with H := st.H.set i a }) (Nat.blt i z5q)
noncomputable def qw8 {β : Type} (b : Bool) (k : AM β) : AM β := fun st => match b with
 | true => k st
 | false => .bad
noncomputable def SI.lit? : SI -> Option Int
 | .lin c (.ofNat 0) (.ofNat 0) => some c
 | _ => none
set_option tactic.hygienic true in
theorem SI.lit_val {i : SI} {c : Int} (h : i.lit? = some c) (ν : Vl) : i.val ν = c := by
 cases i <;> try exact q6q h
 rename_i d a b
 rcases a with (_ | _) | _ <;> try exact q6q h
 rcases b with (_ | _) | _ <;> try exact q6q h
 obtain rfl := w4z h
 show d + 0 * ν.v0 + 0 * ν.v1 = d
 rw [Int.zero_mul, Int.zero_mul, Int.add_zero, Int.add_zero]
noncomputable def litI (c : Int) : AV := .int (.lin c 0 0)
theorem qu8 (ν : Vl) (V : List Addr) (c : Int) (t : Tok) : repV ν V (litI c) (.int c t) := ⟨t, by rw [SI.val_lit]⟩
noncomputable def zm9 (a b : Int) : Bool := match a, b with
 | .ofNat m, .ofNat n => Nat.beq m n
 | .negSucc m, .negSucc n => Nat.beq m n
 | _, _ => false
theorem zf5 (a b : Int) : zm9 a b = decide (a = b) := by
 induction a with
 | ofNat m => induction b with
  | ofNat k => show Nat.beq m k = _; rw [qk6]; exact decide_eq_decide.mpr ⟨fun h => by rw [h], fun h => Int.ofNat.inj h⟩
  | negSucc k => exact (decide_eq_false (fun h => by cases h)).symm
 | negSucc m => induction b with
  | ofNat k => exact (decide_eq_false (fun h => by cases h)).symm
  | negSucc k => show Nat.beq m k = _; rw [qk6]; exact decide_eq_decide.mpr ⟨fun h => by rw [h], fun h => Int.negSucc.inj h⟩
noncomputable def SI.eqb (x y : SI) : Option Bool := match x, y with
 | .lin c a b, .lin c' a' b' => match zm9 a a' && zm9 b b' with
  | true => some (zm9 c c')
  | false => none
 | _, _ => none
set_option tactic.hygienic true in
theorem SI.eqb_ok {x y : SI} {r : Bool} (h : x.eqb y = some r) (ν : Vl) : (x.val ν == y.val ν) = r := by
 unfold SI.eqb at h
 split at h
 . rename_i c a b c' a' b'
   simp only [zf5] at h
   split at h
   . rename_i q
     simp only [Bool.and_eq_true, decide_eq_true_eq] at q
     obtain ⟨rfl, rfl⟩ := q
     obtain rfl := w4z h
     simp only [SI.val]
     by_cases e : c = c'
     . simp [e]
     . have : ¬ (c + a * ν.v0 + b * ν.v1 = c' + a * ν.v0 + b * ν.v1) := by omega
       simp [e]
   . exact q6q h
 . exact q6q h
noncomputable def SI.add (x y : SI) : Option SI := match x, y with
 | .lin c a b, .lin c' a' b' => some (.lin (c + c') (a + a') (b + b'))
 | _, _ => none
theorem SI.add_ok {x y z : SI} (h : x.add y = some z) (ν : Vl) : z.val ν = x.val ν + y.val ν := by
 unfold SI.add at h
 split at h
 . obtain rfl := w4z h; simp only [SI.val, Int.add_mul]; omega
 . exact q6q h
noncomputable def addM (a b : AV) : AM AV := match a, b with
 | .int i, .int j => match i.add j with
  | some k => AM.ret (.int k)
  | none => AM.fail
 | .str x, .str y => qw8 (Nat.ble (x.length + y.length) 1000) (AM.ret (.str (x ++ y)))
 | .ref i, .ref j => qb8 i fun xs => qb8 j fun ys => v0q (xs ++ ys) (newM (.list (xs ++ ys)))
 | _, _ => AM.fail
set_option tactic.hygienic true in
theorem y1q {β : Type} {i : Nat} {k : List AV -> AM β} {st : St} (h : qb8 i k st ≠ .bad) : ∃ xs, st.H.t.get i = some (.list xs) /\ qb8 i k st = k xs st := by
 unfold qb8 at h ⊢
 generalize st.H.t.get i = o at h ⊢
 rcases o with _ | o <;> try exact q3q h
 cases o <;> try exact q3q h
 exact ⟨_, rfl, rfl⟩
theorem qp9 {β : Type} {b : Bool} {k : AM β} {st : St} (h : qw8 b k st ≠ .bad) : b = true /\ qw8 b k st = k st := by
 unfold qw8 at h ⊢
 induction b with
 | true => exact ⟨rfl, rfl⟩
 | false => exact q3q h
theorem k6q {β : Type} {l : List AV} {k : AM β} {st : St} (h : v0q l k st ≠ .bad) : Nat.ble l.length 100000 = true /\ v0q l k st = k st := by
 unfold v0q at h ⊢
 induction e : Nat.ble l.length 100000 with
 | true => exact ⟨rfl, rfl⟩
 | false => rw [e] at h; exact q3q h
theorem qe1 {β : Type} {i : Nat} {a : AO} {k : AM β} {st : St} (h : setM i a k st ≠ .bad) : Nat.blt i z5q = true /\ setM i a k st = k { st with H := st.H.set i a } := by
 unfold setM at h ⊢
 induction e : Nat.blt i z5q with
 | true => exact ⟨rfl, rfl⟩
 | false => rw [e] at h; exact q3q h
set_option tactic.hygienic true in
theorem add_ok : OpOk g prog cx n (binaryOp .Add) addM := by
 intro a b u v A V st s hA hp I hb
 obtain ⟨ha, hv⟩ := hp
 unfold addM at hb ⊢
 induction a <;> induction b <;> try exact q3q hb
 . rename_i i j
   obtain ⟨t, rfl⟩ := ha
   obtain ⟨t', rfl⟩ := hv
   dsimp only at hb ⊢
   induction e : i.add j with
   | none => rw [e] at hb; exact q3q hb
   | some k => exact wpAny_add_int ⟨_, st, V, rfl, ⟨s.toks, by rw [SI.add_ok e]⟩, I.tok _, Ext.refl _ _ _⟩
 . rename_i x y
   obtain ⟨t, rfl⟩ := ha
   obtain ⟨t', rfl⟩ := hv
   obtain ⟨h1, h2⟩ := qp9 hb
   dsimp only at h2 ⊢
   rw [h2]
   refine PyProof.Rows.add_str (fun t' tk => ⟨_, st, V, rfl, ⟨t', ?_⟩, I.tok _, Ext.refl _ _ _⟩) ?_
   . congr 1
     show (⟨x.toArray ++ y.toArray⟩ : Str) = _
     simp
   . have := w5z h1
     show x.toArray.size + y.toArray.size <= sizeLine
     rw [sizeLine_eq]
     simp
     exact Nat.le_trans (by assumption) (by decide)
 . rename_i i j
   dsimp only at hb ⊢
   obtain ⟨xs, e1, e2⟩ := y1q hb
   rw [e2] at hb ⊢
   obtain ⟨ys, e3, e4⟩ := y1q hb
   rw [e4] at hb ⊢
   obtain ⟨e5, e6⟩ := k6q hb
   rw [e6] at hb ⊢
   obtain ⟨la, o, rfl, h1, h2, ⟨vs, n1, hr1, rfl⟩⟩ := I.obj e1 ha
   obtain ⟨lb, o', rfl, h3, h4, ⟨ws, n2, hr2, rfl⟩⟩ := I.obj e3 hv
   have hsz := k4q e5 (hr1.app hr2)
   refine concat_meets ⟨_, h2, rfl⟩ ⟨_, h4, rfl⟩ noFill_list_add seq_list_add PySem.F.slot_list_add PySem.F.entry_list_add (PySem.F.args_list_add_2 _ _) (list_addW la lb vs.toArray ws.toArray n1 n2 none none #[] #[] (by simpa using hsz)) ⟨h2, h4, ?_⟩
   have e : vs.toArray ++ ws.toArray = (vs ++ ws).toArray := by simp
   rw [e]
   exact qi1 (P := fun V => reps g.ν V (xs ++ ys) (vs ++ ws)) (ao := .list (xs ++ ys)) (o := { cls := .type "list", data := .seq (vs ++ ws).toArray }) (fun V hr a => ⟨_, 0, hr.mono ⟨[a], rfl⟩, rfl⟩) rfl A V st s hA (hr1.app hr2) I hb
noncomputable def x6q (a : AV) : AM Bool := match a with
 | .none => AM.ret false
 | .bool b => AM.ret b
 | .bytes b => qw8 (Nat.ble b.length 100000) (AM.ret (!b.isEmpty))
 | .ref i => qb8 i fun xs => v0q xs (AM.ret (!xs.isEmpty))
 | _ => AM.fail
theorem qw6 {α β : Type} (l : List α) (vs : List β) (h : l.length = vs.length) : vs.toArray.isEmpty = l.isEmpty := by
 induction l <;> induction vs <;> simp_all
set_option tactic.hygienic true in
theorem x0q : xh2 g prog cx n x6q := by
 intro a u A V st s hA hp I hb
 unfold x6q at hb ⊢
 induction a <;> try exact q3q hb
 . subst hp; exact PyProof.Rows.truthy_none ⟨false, st, V, rfl, rfl, I, Ext.refl _ _ _⟩
 . subst hp; exact wpAny_truthy_bool ⟨_, st, V, rfl, rfl, I, Ext.refl _ _ _⟩
 . rename_i b
   obtain ⟨⟨t, rfl⟩, hr⟩ := hp
   dsimp only at hb ⊢
   obtain ⟨h1, h2⟩ := qp9 hb
   rw [h2]
   have hl := w5z h1
   refine truthy_bytes (by simp; exact Nat.le_trans (by assumption) (by decide)) ⟨_, st, V, rfl, ?_, I.tok _, Ext.refl _ _ _⟩
   induction b <;> simp [eqR]
   omega
 . rename_i i
   dsimp only at hb ⊢
   obtain ⟨xs, e1, e2⟩ := y1q hb
   rw [e2] at hb ⊢
   obtain ⟨e5, e6⟩ := k6q hb
   rw [e6]
   obtain ⟨la, o, rfl, h1, h2, ⟨vs, n1, hr1, rfl⟩⟩ := I.obj e1 hp
   have hsz := k4q e5 hr1
   rw [sizeLine_eq] at hsz
   refine wpAny_truthy_list (items := vs.toArray) ⟨_, h2, rfl, _, rfl⟩ (by simp; omega) ⟨_, st, V, rfl, ?_, I.tok _, Ext.refl _ _ _⟩
   rw [qw6 xs vs hr1.length]
   rfl
noncomputable def qj5 : List Nat -> List Nat -> Bool
 | [], [] => true
 | a :: l, b :: r => match Nat.beq a b with
  | true => qj5 l r
  | false => false
 | _, _ => false
theorem qg3 : ∀ a b, qj5 a b = decide (a = b)
 | [], [] => rfl
 | [], _ :: _ => rfl
 | _ :: _, [] => rfl
 | a :: l, b :: r => by
  show (match Nat.beq a b with | true => qj5 l r | false => false) = _
  rw [qk6]
  by_cases h : a = b
  . subst h
    rw [decide_eq_true rfl]
    exact (qg3 l r).trans (decide_eq_decide.mpr ⟨fun e => e ▸ rfl, fun e => (List.cons.inj e).2⟩)
  . rw [decide_eq_false h]
    exact (decide_eq_false fun e => h (List.cons.inj e).1).symm
theorem xc7 (x y : List Nat) : ((⟨x.toArray⟩ : Str) == ⟨y.toArray⟩) = qj5 x y := by
 rw [qg3]
 by_cases h : x = y
 . subst h; simp
 . rw [decide_eq_false h]
   have : (⟨x.toArray⟩ : Str) ≠ ⟨y.toArray⟩ := fun e => h (by injection e with e; simpa using e)
   simpa using this
noncomputable def ordM (f : Int -> Int -> Bool) (a b : AV) : AM AV := match a, b with
 | .int i, .int j => match i.lit?, j.lit? with
  | some x, some y => AM.ret (.bool (f x y))
  | _, _ => AM.fail
 | _, _ => AM.fail
set_option tactic.hygienic true in
theorem xs9 {op : CmpOp} {f : Int -> Int -> Bool} (hf : ∀ (A : Around) a b t u Q E s, Q (.bool (f a b)) s -> wpAny (model prog g.w) A (compareOp op (.int a t) (.int b u)) Q E s) : OpOk g prog cx n (compareOp op) (ordM f) := by
 intro a b u v A V st s hA hp I hb
 obtain ⟨ha, hv⟩ := hp
 unfold ordM at hb ⊢
 induction a <;> induction b <;> try exact q3q hb
 rename_i i j
 obtain ⟨t, rfl⟩ := ha
 obtain ⟨t', rfl⟩ := hv
 dsimp only at hb ⊢
 induction e : i.lit? with
 | none => exact q3q (e ▸ hb)
 | some x =>
  induction e' : j.lit? with
  | none => rw [e, e'] at hb; exact q3q hb
  | some y =>
   rw [SI.lit_val e, SI.lit_val e']
   exact hf A x y t t' _ _ s ⟨_, st, V, rfl, rfl, I, Ext.refl _ _ _⟩
theorem lt_ok : OpOk g prog cx n (compareOp .Lt) (ordM fun a b => decide (a < b)) := xs9 fun _ _ _ _ _ _ _ _ h => PyProof.Rows.lt_int h
theorem jk6 : OpOk g prog cx n (compareOp .Gt) (ordM fun a b => decide (b < a)) := xs9 fun _ _ _ _ _ _ _ _ h => PyProof.Rows.gt_int h
theorem le_ok : OpOk g prog cx n (compareOp .LtE) (ordM fun a b => decide (a <= b)) := xs9 fun _ _ _ _ _ _ _ _ h => PyProof.Rows.le_int h
theorem jk8 : OpOk g prog cx n (compareOp .GtE) (ordM fun a b => decide (b <= a)) := xs9 fun _ _ _ _ _ _ _ _ h => PyProof.Rows.ge_int h
noncomputable def isM (flip : Bool) (a b : AV) : AM AV := match a, b with
 | .none, .none => AM.ret (.bool (!flip))
 | .ref _, .none => AM.ret (.bool flip)
 | .int _, .none => AM.ret (.bool flip)
 | .stat (.type x), .stat (.type y) => AM.ret (.bool (Bool.xor flip (decide (x = y))))
 | .int _, .stat (.ref _) => AM.ret (.bool flip)
 | _, _ => AM.fail
theorem qw5 {op : CmpOp} {flip : Bool} (ho : (op = .Is /\ flip = false) \/ (op = .IsNot /\ flip = true)) {a b : Value} {r : Bool} (h : isSame a b = pure r) {A : Around} {Q E s} (hq : Q (.bool (Bool.xor flip r)) s) : wpAny (model prog g.w) A (compareOp op a b) Q E s := by
 rcases ho with ⟨rfl, rfl⟩ | ⟨rfl, rfl⟩
 . show wpAny _ A (do return .bool (<- isSame a b)) Q E s
   rw [h]
   exact w0z (w2z (w2z (by simpa using hq)))
 . show wpAny _ A (do return .bool (!(<- isSame a b))) Q E s
   rw [h]
   exact w0z (w2z (w2z (by simpa using hq)))
set_option tactic.hygienic true in
theorem qr9 {op : CmpOp} {flip : Bool} (ho : (op = .Is /\ flip = false) \/ (op = .IsNot /\ flip = true)) : OpOk g prog cx n (compareOp op) (isM flip) := by
 intro a b u v A V st s hA hp I hb
 obtain ⟨ha, hv⟩ := hp
 cases a <;> try exact q3q hb
 . cases b <;> try exact q3q hb
   subst ha; subst hv
   exact qw5 ho (r := true) rfl ⟨AV.bool (!flip), st, V, rfl, by rw [Bool.xor_true]; rfl, I, Ext.refl _ _ _⟩
 . obtain ⟨x, rfl⟩ := ha
   cases b <;> try exact q3q hb
   . subst hv
     exact qw5 ho (r := false) rfl ⟨AV.bool flip, st, V, rfl, by rw [Bool.xor_false]; rfl, I, Ext.refl _ _ _⟩
   . rename_i w
     cases w <;> try exact q3q hb
     subst hv
     exact qw5 ho (r := false) rfl ⟨AV.bool flip, st, V, rfl, by rw [Bool.xor_false]; rfl, I, Ext.refl _ _ _⟩
 . rename_i w
   cases w <;> try exact q3q hb
   rename_i x
   cases b <;> try exact q3q hb
   rename_i w
   cases w <;> try exact q3q hb
   rename_i y
   subst ha; subst hv
   refine qw5 ho (r := decide (x = y)) ?_ ⟨_, st, V, rfl, rfl, I, Ext.refl _ _ _⟩
   show (pure (Value.type x == Value.type y) : Sem Bool) = _
   congr 1
   by_cases h : x = y
   . simp [h]
   . simp [h]
 . obtain ⟨x, _, rfl⟩ := ha
   cases b <;> try exact q3q hb
   subst hv
   exact qw5 ho (r := false) rfl ⟨AV.bool flip, st, V, rfl, by rw [Bool.xor_false]; rfl, I, Ext.refl _ _ _⟩
noncomputable def qc5 (f : SI -> SI -> Option SI) (a b : AV) : AM AV := match a, b with
 | .int i, .int j => match f i j with
  | some k => AM.ret (.int k)
  | none => AM.fail
 | _, _ => AM.fail
set_option tactic.hygienic true in
theorem qs0 {t : Value -> Value -> Sem Value} {f : SI -> SI -> Option SI} (hf : ∀ (A : Around) i j k tA tB Q E s, f i j = some k -> (∀ u tk, Q (.int (k.val g.ν) u) { s with toks := tk }) -> wpAny (model prog g.w) A (t (.int (i.val g.ν) tA) (.int (j.val g.ν) tB)) Q E s) : OpOk g prog cx n t (qc5 f) := by
 intro a b u v A V st s hA hp I hb
 obtain ⟨ha, hv⟩ := hp
 unfold qc5 at hb ⊢
 induction a <;> induction b <;> try exact q3q hb
 rename_i i j
 obtain ⟨t, rfl⟩ := ha
 obtain ⟨t', rfl⟩ := hv
 dsimp only at hb ⊢
 induction e : f i j with
 | none => exact q3q (e ▸ hb)
 | some k => exact hf A i j k t t' _ _ s e fun u tk => ⟨_, st, V, rfl, ⟨u, rfl⟩, I.tok _, Ext.refl _ _ _⟩
noncomputable def SI.sub (x y : SI) : Option SI := match x, y with
 | .lin c a b, .lin c' a' b' => some (.lin (c - c') (a - a') (b - b'))
 | _, _ => none
set_option tactic.hygienic true in
theorem SI.sub_ok {x y z : SI} (h : x.sub y = some z) (ν : Vl) : z.val ν = x.val ν - y.val ν := by
 rcases x with ⟨c, a, b⟩ | _ <;> try exact q6q h
 rcases y with ⟨c', a', b'⟩ | _ <;> try exact q6q h
 obtain rfl := w4z h
 simp only [SI.val, Int.sub_mul]; omega
noncomputable def xa8 (j : SI) : Option Nat := match j.lit? with
 | some (.ofNat (k + 1)) => some (k + 1)
 | _ => none
set_option tactic.hygienic true in
theorem xj1 {j : SI} {k : Nat} (h : xa8 j = some k) (ν : Vl) : j.val ν = (k : Int) /\ 0 < k := by
 unfold xa8 at h
 generalize e : j.lit? = o at h
 rcases o with _ | z <;> try exact q6q h
 rcases z with (_ | m) | _ <;> try exact q6q h
 obtain rfl := w4z h
 exact ⟨SI.lit_val e ν, Nat.succ_pos m⟩
noncomputable def SI.fdiv (x y : SI) : Option SI := match xa8 y with
 | some k => match Nat.ble k 1000000 with
  | true => match x with
   | .quo w d => some (.quo w (d * k))
   | x => match x.lit? with
    | some c => some (.lin (Int.fdiv c k) 0 0)
    | none => none
  | false => none
 | none => none
theorem xf4 (x : Int) (d k : Nat) : Int.fdiv (Int.fdiv x d) k = Int.fdiv x ((d * k : Nat) : Int) := by
 rw [Int.fdiv_eq_ediv_of_nonneg _ (Int.natCast_nonneg d), Int.fdiv_eq_ediv_of_nonneg _ (Int.natCast_nonneg k), Int.fdiv_eq_ediv_of_nonneg _ (Int.natCast_nonneg (d * k)), Int.natCast_mul, Int.ediv_ediv_of_nonneg (Int.natCast_nonneg d)]
set_option tactic.hygienic true in
theorem SI.fdiv_ok {x y z : SI} (h : x.fdiv y = some z) (ν : Vl) : z.val ν = (x.val ν).fdiv (y.val ν) /\ y.val ν ≠ 0 /\ (y.val ν).natAbs <= 1000000 := by
 unfold SI.fdiv at h
 induction e : xa8 y with
 | none => exact q6q (e ▸ h)
 | some k =>
  rw [e] at h
  dsimp only at h
  obtain ⟨h1, h2⟩ := xj1 e ν
  induction e2 : Nat.ble k 1000000 with
  | false => exact q6q (e2 ▸ h)
  | true =>
   rw [e2] at h
   have hk := w5z e2
   refine ⟨?_, by omega, by omega⟩
   dsimp only at h
   rw [h1]
   split at h
   . rename_i w d
     obtain rfl := w4z h
     exact (xf4 _ d k).symm
   . split at h
     . rename_i c e3
       obtain rfl := w4z h
       rw [SI.val_lit, SI.lit_val e3]
     . exact q6q h
noncomputable def SI.fmod (mt : Bool -> Nat -> Int -> Option SI) (x y : SI) : Option SI := match xa8 y with
 | some k => match x with
  | .quo w d => mt w d k
  | x => match x.lit? with
   | some c => some (.lin (Int.fmod c k) 0 0)
   | none => none
 | none => none
set_option tactic.hygienic true in
theorem SI.fmod_ok (G : GOk g) {x y z : SI} (h : x.fmod g.mt y = some z) : z.val g.ν = (x.val g.ν).fmod (y.val g.ν) /\ y.val g.ν ≠ 0 := by
 unfold SI.fmod at h
 induction e : xa8 y with
 | none => exact q6q (e ▸ h)
 | some k =>
  rw [e] at h
  dsimp only at h
  obtain ⟨h1, h2⟩ := xj1 e g.ν
  refine ⟨?_, by omega⟩
  rw [h1]
  split at h
  . rename_i w d
    exact G.mts w d k z h
  . split at h
    . rename_i c e3
      obtain rfl := w4z h
      rw [SI.val_lit, SI.lit_val e3]
    . exact q6q h
noncomputable def SI.pow (x y : SI) : Option SI := match x.lit?, y.lit? with
 | some (.ofNat a), some (.ofNat b) => match Nat.ble a 100 && Nat.ble b 100 with
  | true => some (.lin (Int.ofNat (a ^ b)) 0 0)
  | false => none
 | _, _ => none
theorem sub_ok : OpOk g prog cx n (binaryOp .Sub) (qc5 SI.sub) := qs0 fun _ i j k _ _ _ _ s e h => PyProof.Rows.sub_int (by rw [<- SI.sub_ok e]; exact h _ _)
theorem fdiv_ok : OpOk g prog cx n (binaryOp .FloorDiv) (qc5 SI.fdiv) := qs0 fun _ i j k _ _ _ _ s e h => PyProof.Rows.floordiv_int (SI.fdiv_ok e _).2.1 (by rw [<- (SI.fdiv_ok e _).1]; exact h _ _) (.inl (PyProof.noPylong_small (by have := (SI.fdiv_ok e g.ν).2.2; exact Nat.lt_of_le_of_lt (by assumption) (by decide))))
theorem fmod_ok (G : GOk g) : OpOk g prog cx n (binaryOp .Mod) (qc5 (SI.fmod g.mt)) := qs0 fun _ i j k _ _ _ _ s e h => PyProof.Rows.mod_int' (SI.fmod_ok G e).2 (by rw [<- (SI.fmod_ok G e).1]; exact h _ _)
set_option tactic.hygienic true in
theorem jh0 : OpOk g prog cx n (binaryOp .Pow) (qc5 SI.pow) := qs0 fun _ i j k _ _ _ _ s e h => by
 unfold SI.pow at e
 generalize e1 : i.lit? = x at e
 generalize e2 : j.lit? = y at e
 rcases x with _ | z <;> try exact q6q e
 rcases z with a | _ <;> try exact q6q e
 rcases y with _ | z <;> try exact q6q e
 rcases z with b | _ <;> try exact q6q e
 dsimp only at e
 generalize q : (Nat.ble a 100 && Nat.ble b 100) = r at e
 cases r
 . exact q6q e
 obtain rfl := w4z e
 rw [Bool.and_eq_true] at q
 have ha := w5z q.1
 have hb := w5z q.2
 rw [SI.lit_val e1, SI.lit_val e2]
 refine PyProof.Rows.pow_int (Int.natCast_nonneg b) ?_ ?_
 . have h1 : Builtin.Int.intBits (Int.ofNat a) <= 7 := intBits_le_iff.mpr (by show a < 2 ^ 7; exact Nat.lt_of_le_of_lt (by assumption) (by decide))
   have h2 : ((Builtin.Int.intBits (Int.ofNat a) : Nat) : Int) <= 7 := by exact Int.ofNat_le.mpr (by assumption)
   have h3 : (Int.ofNat b) <= 100 := by show (b : Int) <= 100; exact Int.ofNat_le.mpr (by assumption)
   calc ((Builtin.Int.intBits (Int.ofNat a) : Nat) : Int) * Int.ofNat b <= 7 * 100 := Int.mul_le_mul h2 h3 (Int.natCast_nonneg b) (by decide)
    _ <= 2 ^ 27 := by decide
 . have := h
   rw [SI.val_lit] at this
   have e3 : (Int.ofNat a) ^ (Int.ofNat b).toNat = Int.ofNat (a ^ b) := by
    show (a : Int) ^ b = ((a ^ b : Nat) : Int)
    rw [Int.natCast_pow]
   rw [e3]
   exact this _ _
end
section
open PySem PySem.Spec PySem.Calls PyProof.Rows PySem.W PySem.SeqAt
inductive AD where
 | none
 | bool (b : Bool)
 | int (i : SI)
 | str (s : List Nat)
 | list (l : List AD)
 | tuple (l : List AD)
mutual
noncomputable def AD.py (ν : Vl) : AD -> PyData
 | .none => .none
 | .bool b => .bool b
 | .int i => .int (i.val ν)
 | .str s => .str ⟨s.toArray⟩
 | .list l => .list (AD.pys ν l)
 | .tuple l => .tuple (AD.pys ν l)
noncomputable def AD.pys (ν : Vl) : List AD -> List PyData
 | [] => []
 | a :: l => a.py ν :: AD.pys ν l
end
noncomputable def qe0 : List Nat -> Bool
 | [] => true
 | a :: l => match Nat.blt a 1114112 with
  | true => qe0 l
  | false => false
theorem qr0 : ∀ l : List Nat, qe0 l = true -> PyData.strOk ⟨l.toArray⟩ = true
 | [], _ => by simp [PyData.strOk]
 | a :: l, h => by
  unfold qe0 at h
  induction e : Nat.blt a 1114112 with
  | false => rw [e] at h; exact j7q h
  | true =>
   rw [e] at h
   have h1 : a < 1114112 := w5z e
   have h2 := qr0 l h
   simp only [PyData.strOk] at h2 ⊢
   rw [List.all_toArray] at h2 ⊢
   rw [List.all_cons, h2]
   simp
   assumption
noncomputable def qy0 (f : AV -> Option AD) : List AV -> Option (List AD)
 | [] => some []
 | a :: l => match f a with
  | some d => match qy0 f l with
   | some ds => some (d :: ds)
   | none => none
  | none => none
noncomputable def deep (t : Tr) : Nat -> AV -> Option AD
 | _, .none => some .none
 | _, .bool b => some (.bool b)
 | _, .int i => some (.int i)
 | _, .str s => match qe0 s with
  | true => some (.str s)
  | false => none
 | k + 1, .ref i => match t.get i with
  | some (.list xs) => match qy0 (deep t k) xs with
   | some l => some (.list l)
   | none => none
  | some (.tuple xs) => match qy0 (deep t k) xs with
   | some l => some (.tuple l)
   | none => none
  | _ => none
 | _, _ => none
mutual
noncomputable def AD.eqb : AD -> AD -> Option Bool
 | .none, .none => some true
 | .bool a, .bool b => some (a == b)
 | .int i, .int j => i.eqb j
 | .str a, .str b => some (qj5 a b)
 | .list a, .list b => AD.eqbs a b
 | .tuple a, .tuple b => AD.eqbs a b
 | .int _, .list _ => some false
 | .list _, .int _ => some false
 | .none, .list _ => some false
 | .list _, .none => some false
 | _, _ => Option.none
noncomputable def AD.eqbs : List AD -> List AD -> Option Bool
 | [], [] => some true
 | [], _ :: _ => some false
 | _ :: _, [] => some false
 | a :: l, b :: r => match AD.eqb a b with
  | some false => some false
  | some true => AD.eqbs l r
  | Option.none => Option.none
end
mutual
theorem AD.eqb_ok (ν : Vl) : ∀ (a b : AD) (r : Bool), AD.eqb a b = some r -> PyData.eqv (a.py ν) (b.py ν) = r
 | .none, b, r, h => by cases b <;> first | exact q6q h | (obtain rfl := w4z h; rfl)
 | .bool x, b, r, h => by cases b <;> first | exact q6q h | (obtain rfl := w4z h; rfl)
 | .int i, b, r, h => by cases b <;> first | exact q6q h | exact SI.eqb_ok h ν | (obtain rfl := w4z h; rfl)
 | .str x, b, r, h => by cases b <;> first | exact q6q h | (obtain rfl := w4z h; exact xc7 x _)
 | .list x, b, r, h => by cases b <;> first | exact q6q h | exact AD.eqbs_ok ν x _ r h | (obtain rfl := w4z h; rfl)
 | .tuple x, b, r, h => by cases b <;> first | exact q6q h | exact AD.eqbs_ok ν x _ r h
theorem AD.eqbs_ok (ν : Vl) : ∀ (a b : List AD) (r : Bool), AD.eqbs a b = some r -> PyData.eqvAll (AD.pys ν a) (AD.pys ν b) = r
 | [], [], r, h => by obtain rfl := w4z h; rfl
 | [], _ :: _, r, h => by obtain rfl := w4z h; rfl
 | _ :: _, [], r, h => by obtain rfl := w4z h; rfl
 | x :: l, y :: m, r, h => by
  replace h : (match AD.eqb x y with | some false => some false | some true => AD.eqbs l m | Option.none => Option.none) = some r := h
  show (PyData.eqv (x.py ν) (y.py ν) && PyData.eqvAll (AD.pys ν l) (AD.pys ν m)) = r
  induction e : AD.eqb x y with
  | none => exact q6q (e ▸ h)
  | some q =>
   rw [e] at h
   rw [AD.eqb_ok ν x y q e]
   induction q with
   | false => exact w4z h
   | true => exact AD.eqbs_ok ν l m r h
end
section
variable {g : Gl} {prog : Program} {cx : Cx} {n : Nat} {V : List Addr} {st : St} {s : Shared}
theorem xh1 (I : Inv g cx V st s) {k : Nat} (ih : ∀ a d v, deep st.H.t k a = some d -> repV g.ν V a v -> (∃ as, Reads s.heap v (d.py g.ν) as) /\ (d.py g.ν).canLay0 = true /\ (d.py g.ν).depth <= k) :
 ∀ (xs : List AV) (l : List AD) (vs : List Value), qy0 (deep st.H.t k) xs = some l -> reps g.ν V xs vs -> (∃ as, ReadsAll s.heap vs (AD.pys g.ν l) as) /\ PyData.canLayAll0 (AD.pys g.ν l) = true /\ PyData.depthAll (AD.pys g.ν l) <= k
 | [], l, [], h, _ => by obtain rfl := w4z h; exact ⟨⟨_, ReadsAll.nil⟩, rfl, Nat.zero_le _⟩
 | [], _, _ :: _, _, h => h.elim
 | _ :: _, _, [], _, h => h.elim
 | a :: xs, l, v :: vs, h, hr => by
  replace h : (match deep st.H.t k a with | some d => (match qy0 (deep st.H.t k) xs with | some ds => some (d :: ds) | none => none) | none => none) = some l := h
  induction e : deep st.H.t k a with
  | none => exact q6q (e ▸ h)
  | some d =>
   rw [e] at h
   induction e2 : qy0 (deep st.H.t k) xs with
   | none => exact q6q (e2 ▸ h)
   | some ds =>
    obtain rfl := w4z (e2 ▸ h)
    obtain ⟨⟨as, h1⟩, h2, h3⟩ := ih a d v e hr.1
    obtain ⟨⟨bs, h4⟩, h5, h6⟩ := xh1 I ih xs ds vs e2 hr.2
    exact ⟨⟨_, ReadsAll.cons h1 h4⟩, Bool.and_eq_true_iff.mpr ⟨h2, h5⟩, Nat.max_le.mpr ⟨h3, h6⟩⟩
noncomputable def flat : AV -> Option AD
 | .none => some .none
 | .bool b => some (.bool b)
 | .int i => some (.int i)
 | .str s => match qe0 s with
  | true => some (.str s)
  | false => none
 | _ => none
theorem zg6 {a : AV} {d : AD} {v : Value} (h : flat a = some d) (hr : repV g.ν V a v) : (∃ as, Reads s.heap v (d.py g.ν) as) /\ (d.py g.ν).canLay0 = true /\ (d.py g.ν).depth <= 0 := by
 induction a with
 | none => obtain rfl := w4z h; subst hr; exact ⟨⟨_, Reads.none⟩, rfl, Nat.le_refl _⟩
 | bool b => obtain rfl := w4z h; subst hr; exact ⟨⟨_, Reads.bool b⟩, rfl, Nat.le_refl _⟩
 | int i => obtain rfl := w4z h; obtain ⟨t, rfl⟩ := hr; exact ⟨⟨_, Reads.int _ t⟩, rfl, Nat.le_refl _⟩
 | str x =>
  obtain ⟨t, rfl⟩ := hr
  unfold flat at h
  dsimp only at h
  induction e : qe0 x with
  | false => rw [e] at h; exact q6q h
  | true => rw [e] at h; obtain rfl := w4z h; exact ⟨⟨_, Reads.str _ t⟩, qr0 x e, Nat.le_refl _⟩
 | _ => exact q6q h
noncomputable def jl2 (t : Tr) (k : Nat) (o : Option AO) : Option AD := match o with
 | some (.list xs) => match qy0 (deep t k) xs with
  | some l => some (.list l)
  | none => none
 | some (.tuple xs) => match qy0 (deep t k) xs with
  | some l => some (.tuple l)
  | none => none
 | _ => none
theorem xv6 {t : Tr} {k : Nat} {a : AV} {d : AD} (h : deep t k a = some d) : flat a = some d \/ ∃ i j xs l, a = .ref i /\ k = j + 1 /\ qy0 (deep t j) xs = some l /\ (t.get i = some (.list xs) /\ d = .list l \/ t.get i = some (.tuple xs) /\ d = .tuple l) := by
 induction a with
 | ref i =>
  induction k with
  | zero => exact q6q h
  | succ j =>
   replace h : jl2 t j (t.get i) = some d := h
   unfold jl2 at h
   induction e : t.get i with
   | none => exact q6q (e ▸ h)
   | some o =>
    rw [e] at h
    induction o with
    | list xs =>
     dsimp only at h
     induction e2 : qy0 (deep t j) xs with
     | none => exact q6q (e2 ▸ h)
     | some l => rw [e2] at h; exact .inr ⟨i, j, xs, l, rfl, rfl, e2, .inl ⟨e, (w4z h).symm⟩⟩
    | tuple xs =>
     dsimp only at h
     induction e2 : qy0 (deep t j) xs with
     | none => exact q6q (e2 ▸ h)
     | some l => rw [e2] at h; exact .inr ⟨i, j, xs, l, rfl, rfl, e2, .inr ⟨e, (w4z h).symm⟩⟩
    | _ => exact q6q h
 | _ => induction k <;> exact .inl h
theorem zh0 (I : Inv g cx V st s) (k : Nat) : ∀ (a : AV) (d : AD) (v : Value), deep st.H.t k a = some d -> repV g.ν V a v -> (∃ as, Reads s.heap v (d.py g.ν) as) /\ (d.py g.ν).canLay0 = true /\ (d.py g.ν).depth <= k := by
 induction k with
 | zero =>
  intro a d v h hr
  rcases xv6 h with e | ⟨i, j, xs, l, rfl, z, _⟩
  . exact zg6 e hr
  . cases z
 | succ k ih =>
  intro a d v h hr
  rcases xv6 h with e | ⟨i, j, xs, l, rfl, z, e2, q⟩
  . obtain ⟨x, y, z⟩ := zg6 (s := s) e hr
    exact ⟨x, y, Nat.le_trans z (Nat.zero_le _)⟩
  . cases z
    rcases q with ⟨e, rfl⟩ | ⟨e, rfl⟩
    . obtain ⟨a, o, rfl, h1, h2, ⟨vs, n1, hr1, rfl⟩⟩ := I.obj e hr
      obtain ⟨⟨as, h4⟩, h5, h6⟩ := xh1 I ih xs l vs e2 hr1
      rw [AD.py]
      exact ⟨⟨_, Reads.list h2 rfl rfl (by simpa using h4)⟩, h5, by rw [PyData.depth]; exact Nat.succ_le_succ (by assumption)⟩
    . obtain ⟨a, o, rfl, h1, h2, ⟨vs, n1, hr1, rfl⟩⟩ := I.obj e hr
      obtain ⟨⟨as, h4⟩, h5, h6⟩ := xh1 I ih xs l vs e2 hr1
      rw [AD.py]
      exact ⟨⟨_, Reads.tuple h2 rfl rfl (by simpa using h4)⟩, h5, by rw [PyData.depth]; exact Nat.succ_le_succ (by assumption)⟩
end
section
variable {g : Gl} {prog : Program} {cx : Cx} {n : Nat}
noncomputable def eqM (flip : Bool) (a b : AV) : AM AV := fun st => match deep st.H.t 8 a with
 | some x => match deep st.H.t 8 b with
  | some y => match AD.eqb x y with
   | some r => .ok (.bool (Bool.xor flip r)) st
   | none => .bad
  | none => .bad
 | none => .bad
theorem xv2 {op : CmpOp} {flip : Bool} (ho : (op = .Eq /\ flip = false) \/ (op = .NotEq /\ flip = true)) : OpOk g prog cx n (compareOp op) (eqM flip) := by
 intro a b u v A V st s hA hp I hb
 obtain ⟨ha, hv⟩ := hp
 unfold eqM at hb ⊢
 induction e1 : deep st.H.t 8 a with
 | none => exact q3q (e1 ▸ hb)
 | some x =>
  rw [e1] at hb
  skip
  induction e2 : deep st.H.t 8 b with
  | none => exact q3q (e2 ▸ hb)
  | some y =>
   rw [e2] at hb
   dsimp only at hb ⊢
   induction e3 : AD.eqb x y with
   | none => exact q3q (e3 ▸ hb)
   | some r =>
    obtain ⟨⟨as, h1⟩, h2, h3⟩ := zh0 I 8 a x u e1 ha
    obtain ⟨⟨bs, h4⟩, h5, h6⟩ := zh0 I 8 b y v e2 hv
    have q := AD.eqb_ok g.ν x y r e3
    have hu : A.units + 64 < cLine := by have := hA.units; have : cLine = 9900 := rfl; omega
    have s1 : shaped (x.py g.ν) = true := by unfold shaped; rw [h2, decide_eq_true (by exact Nat.le_trans (by assumption) (by decide))]; rfl
    have s2 : shaped (y.py g.ν) = true := by unfold shaped; rw [h5, decide_eq_true (by exact Nat.le_trans (by assumption) (by decide))]; rfl
    rcases ho with ⟨rfl, rfl⟩ | ⟨rfl, rfl⟩
    . exact compareEq_shaped h1 h4 s1 s2 hu ⟨_, st, V, rfl, by rw [q, Bool.false_xor]; rfl, I, Ext.refl _ _ _⟩
    . exact compareNe_shaped h1 h4 s1 s2 hu ⟨_, st, V, rfl, by rw [q, Bool.true_xor]; rfl, I, Ext.refl _ _ _⟩
theorem xl5 : OpOk g prog cx n (compareOp .Eq) (eqM false) := xv2 (.inl ⟨rfl, rfl⟩)
theorem zu3 : OpOk g prog cx n (compareOp .NotEq) (eqM true) := xv2 (.inr ⟨rfl, rfl⟩)
end
end
section
variable {g : Gl} {prog : Program} {cx : Cx} {n : Nat}
noncomputable def v3q : List (List Nat × AV) -> List Nat -> Option Nat
 | [], _ => none
 | e :: r, k => match qj5 e.1 k with
  | true => some 0
  | false => match v3q r k with
   | some i => some (i + 1)
   | none => none
theorem qp5 {V : List Addr} (p : Program) (w : World) : ∀ {es : List (List Nat × AV)} {fs : List DictEntry} (k : List Nat), k1q g V es fs -> fs.findIdx? (fun e => (strKind p w).is ⟨k.toArray⟩ e.key) = v3q es k
 | [], [], _, _ => rfl
 | [], _ :: _, _, h => h.elim
 | _ :: _, [], _, h => h.elim
 | a :: l, e :: r, k, h => by
  obtain ⟨⟨⟨t, h1⟩, _⟩, _, h3⟩ := h
  rw [List.findIdx?_cons, v3q, h1]
  show (if Value.isStrOf ⟨k.toArray⟩ (.str ⟨a.1.toArray⟩ t) = true then _ else _) = _
  have e : Value.isStrOf ⟨k.toArray⟩ (.str ⟨a.1.toArray⟩ t) = qj5 a.1 k := xc7 a.1 k
  rw [e]
  induction qj5 a.1 k with
  | true => rfl
  | false =>
   rw [if_neg Bool.false_ne_true, qp5 p w k h3]
   cases v3q l k <;> rfl
theorem k1q.get {V : List Addr} : ∀ {es : List (List Nat × AV)} {fs : List DictEntry} {i : Nat} {a : List Nat × AV}, k1q g V es fs -> es[i]? = some a -> ∃ e, fs[i]? = some e /\ (∃ t, e.key = .str ⟨a.1.toArray⟩ t) /\ repV g.ν V a.2 e.val
 | [], [], _, _, _, e => by simp at e
 | [], _ :: _, _, _, h, _ => h.elim
 | _ :: _, [], _, _, h, _ => h.elim
 | a :: l, e :: r, 0, b, h, q => by simp at q; subst q; exact ⟨e, rfl, h.1.1, h.2.1⟩
 | a :: l, e :: r, i + 1, b, h, q => by
  obtain ⟨u, h1, h2⟩ := k1q.get (i := i) h.2.2 (by simpa using q)
  exact ⟨u, by simpa using h1, h2⟩
theorem k1q.keysOf {V : List Addr} (p : Program) : ∀ {es : List (List Nat × AV)} {fs : List DictEntry}, k1q g V es fs -> ∀ e ∈ fs, ∃ k, (strKind p g.w).is k e.key = true /\ e.hash = (strKind p g.w).hash k
 | [], [], _, _, h => by cases h
 | [], _ :: _, h, _, _ => h.elim
 | _ :: _, [], h, _, _ => h.elim
 | a :: l, e :: r, h, x, hx => by
  rcases List.mem_cons.mp hx with q | q
  . subst q
    obtain ⟨⟨⟨t, h1⟩, h2⟩, _⟩ := h
    exact ⟨⟨a.1.toArray⟩, by rw [h1]; show (_ == _) = true; simp, h2⟩
  . exact k1q.keysOf p h.2.2 x q
theorem k1q.length {V : List Addr} : ∀ {es : List (List Nat × AV)} {fs : List DictEntry}, k1q g V es fs -> es.length = fs.length
 | [], [], _ => rfl
 | [], _ :: _, h => h.elim
 | _ :: _, [], h => h.elim
 | a :: l, e :: r, h => by simp [k1q.length h.2.2]
theorem u3q (p : Program) (w : World) (k : List Nat) (t : Tok) : (strKind p w).is ⟨k.toArray⟩ (.str ⟨k.toArray⟩ t) = true := by show (_ == _) = true; simp
noncomputable def z4q (es : List (List Nat × AV)) (k : List Nat) : Option AV := match v3q es k with
 | some i => match es[i]? with
  | some a => some a.2
  | none => none
 | none => none
theorem qg9 : ∀ {es : List (List Nat × AV)} {k : List Nat} {i : Nat}, v3q es k = some i -> ∃ a, es[i]? = some a /\ a.1 = k
 | [], _, _, h => by exact q6q h
 | e :: r, k, i, h => by
  rw [v3q] at h
  induction q : qj5 e.1 k with
  | true => obtain rfl := w4z (q ▸ h); exact ⟨e, rfl, by rw [qg3] at q; exact of_decide_eq_true q⟩
  | false =>
   rw [q] at h
   skip
   induction q2 : v3q r k with
   | none => exact q6q (q2 ▸ h)
   | some j =>
    obtain rfl := w4z (q2 ▸ h)
    obtain ⟨a, h1, h2⟩ := qg9 q2
    exact ⟨a, by simpa using h1, h2⟩
theorem xz1 {A : Around} {V : List Addr} {s : Shared} {d : Addr} {es : List (List Nat × AV)} {ep : Nat} {o : Obj} {k : List Nat} {t : Tok} {Q : Option Value -> Shared -> Prop} {E : VP}
 (ho : s.heap.get? d = some o) (hr : j2q g V o (.dict es ep)) (h : ∀ v, w5q g.ν V (z4q es k) v -> Q v { s with toks := s.toks + 1 }) : wpAny (model prog g.w) A (dictGet d (.str ⟨k.toArray⟩ t)) Q E s := by
 obtain ⟨fs, h1, h2, rfl⟩ := hr
 have hk : KeysOf (strKind prog g.w) fs.toArray := fun e he => h1.keysOf prog e (List.mem_toArray.mp he)
 refine wpAny_dictGet_of (knd := strKind prog g.w) (k := ⟨k.toArray⟩) (u3q prog g.w k t) ⟨_, _, _, ho, ⟨rfl, rfl, rfl⟩, rfl, hk, fun _ => rfl⟩ (h _ ?_)
 rw [findBy_of_findIdx?]
 have e : (fs.toArray.findIdx? fun e => (strKind prog g.w).is ⟨k.toArray⟩ e.key) = v3q es k := by rw [List.findIdx?_toArray]; exact qp5 prog g.w k h1
 rw [e]
 unfold z4q
 induction q : v3q es k with
 | none => exact trivial
 | some i =>
  obtain ⟨a, h3, h4⟩ := qg9 q
  dsimp only
  rw [h3]
  obtain ⟨x, h5, _, h6⟩ := h1.get h3
  have : fs.toArray[i]? = some x := by simpa using h5
  simp only [this, Option.map_some]
  exact h6
noncomputable def jh7 (c : Int) (l : Nat) : Option Nat := match c with
 | .ofNat k => some k
 | .negSucc k => match Nat.ble (k + 1) l with
  | true => some (l - (k + 1))
  | false => none
noncomputable def pick {α : Type} (xs : List α) (c : Int) : Option α := match Nat.ble xs.length 1000000 with
 | true => match jh7 c xs.length with
  | some k => xs[k]?
  | none => none
 | false => none
set_option tactic.hygienic true in
theorem xp2 {α : Type} {xs : List α} {c : Int} {a : α} (h : pick xs c = some a) : ∃ k, seqIndex? c xs.length = some k /\ xs[k]? = some a /\ xs.length <= 1000000 /\ -(2 ^ 63) <= c /\ c < 2 ^ 63 /\
 ((0 <= c /\ c.toNat = k) \/ (c < 0 /\ -(xs.length : Int) <= c /\ (c + xs.length).toNat = k)) := by
 unfold pick at h
 split at h
 . rename_i e0
   have hl := w5z e0
   split at h
   . rename_i k e1
     have hk : k < xs.length := (List.getElem?_eq_some_iff.mp h).1
     unfold jh7 at e1
     split at e1
     . rename_i m
       cases e1
       refine ⟨k, ?_, h, hl, ?_, ?_, .inl ⟨Int.natCast_nonneg k, rfl⟩⟩
       . have hn : ¬ (Int.ofNat k < 0) := by simp
         unfold seqIndex?
         rw [if_neg hn]
         have : (decide (0 <= Int.ofNat k) && decide (Int.ofNat k < (xs.length : Int))) = true := by simp; assumption
         rw [if_pos this]; rfl
       . show _ <= (k : Int); exact Int.natCast_nonneg _
       . show (k : Int) < _; omega
     . rename_i m
       split at e1
       . rename_i e
         have hm := w5z e
         obtain rfl := w4z e1
         have h0 : Int.negSucc m < 0 := Int.negSucc_lt_zero m
         have h1 : -(xs.length : Int) <= Int.negSucc m := by omega
         have h2 : (Int.negSucc m + xs.length).toNat = xs.length - (m + 1) := by omega
         exact ⟨_, by rw [seqIndex_neg h0 h1, h2], h, hl, by omega, by exact Int.le_trans (by assumption) (by decide), .inr ⟨h0, h1, h2⟩⟩
       . exact q6q e1
   . exact q6q h
 . exact q6q h
noncomputable def optM {β : Type} (o : Option β) : AM β := match o with
 | some b => AM.ret b
 | none => AM.fail
noncomputable def subM (a b : AV) : AM AV := match a with
 | .ref i => match b with
  | .int j => match j.lit? with
   | some c => fun st => match st.H.t.get i with
    | some (.list xs) => optM (pick xs c) st
    | some (.tuple xs) => optM (pick xs c) st
    | _ => .bad
   | none => AM.fail
  | .str k => fun st => match st.H.t.get i with
   | some (.dict es _) => optM (z4q es k) st
   | _ => .bad
  | _ => AM.fail
 | .str x => match b with
  | .int j => match j.lit? with
   | some c => match pick x c with
    | some y => AM.ret (.str [y])
    | none => AM.fail
   | none => AM.fail
  | _ => AM.fail
 | .bytes x => match b with
  | .int j => match j.lit? with
   | some (.ofNat k) => match pick x (.ofNat k) with
    | some y => AM.ret (.int y)
    | none => AM.fail
   | _ => AM.fail
  | _ => AM.fail
 | _ => AM.fail
theorem qa7 {value slice : Expr} {u v : Value} {A : Around} {s : Shared} {T id : String} {Q : VP} {E : VP} (hs : ∃ ops, subscripted slice false u v = operate ops (getItem u v)) (hT : s.TypeIs u T)
 (hl : typeLookup (.type T) "__getitem__" = pure (some (.builtin id))) (hg : wpAny (model prog g.w) A (getItem u v) Q E s) : wpAny (model prog g.w) A (subscriptTail value slice u v) Q E s := by
 obtain ⟨ops, e⟩ := hs
 exact tail_any hT hl hg e
set_option tactic.hygienic true in
theorem zj9 {value slice : Expr} {a b : AV} {u v : Value} (hs : ∃ ops, subscripted slice false u v = operate ops (getItem u v)) : RefX g prog cx n (fun V => repV g.ν V a u /\ repV g.ν V b v) (repV g.ν) (subscriptTail value slice u v) (subM a b) := by
 intro A V st s hA hp I hb
 obtain ⟨ha, hv⟩ := hp
 have done : ∀ {xs : List AV} {vs : List Value} {c : Int} {y : AV}, reps g.ν V xs vs -> pick xs c = some y -> ∃ z k, repV g.ν V y z /\ seqIndex? c vs.length = some k /\ vs[k]? = some z /\ xs.length <= 1000000 /\ -(2 ^ 63) <= c /\ c < 2 ^ 63 /\
  ((0 <= c /\ c.toNat = k) \/ (c < 0 /\ -(vs.length : Int) <= c /\ (c + vs.length).toNat = k)) := by
  intro xs vs c y hr hy
  obtain ⟨k, h1, h2, h3, h4, h5, h6⟩ := xp2 hy
  obtain ⟨z, h7, h8⟩ := hr.get h2
  rw [hr.length] at h1 h6
  exact ⟨z, k, h8, h1, h7, h3, h4, h5, h6⟩
 induction a with
 | ref i =>
  induction b with
  | int j =>
   unfold subM at hb ⊢
   dsimp only at hb ⊢
   induction e1 : j.lit? with
   | none => exact q3q (e1 ▸ hb)
   | some c =>
    rw [e1] at hb
    dsimp only at hb ⊢
    obtain ⟨t, rfl⟩ := hv
    rw [SI.lit_val e1] at hs ⊢
    induction e2 : st.H.t.get i with
    | none => exact q3q (e2 ▸ hb)
    | some ao =>
     rw [e2] at hb
     induction ao <;> try exact q3q hb
     . rename_i xs
       dsimp only at hb ⊢
       induction e3 : pick xs c with
       | none => exact q3q (e3 ▸ hb)
       | some y =>
        obtain ⟨x, o, rfl, h1, h2, ⟨vs, n1, hr, rfl⟩⟩ := I.obj e2 ha
        obtain ⟨z, k, q1, q2, q3, q4, q5, q6, q7⟩ := done hr e3
        have hl : s.heap.IsList x vs.toArray := ⟨_, h2, rfl, n1, rfl⟩
        have fin : QOk g cx V s (repV g.ν) (optM (some y) st) z s := ⟨y, st, V, rfl, q1, I, Ext.refl _ _ _⟩
        refine qa7 hs hl.typeIs slot_list_getitem.lookup ?_
        rcases q7 with ⟨w1, w2⟩ | ⟨w1, w2, w3⟩
        . exact wpAny_getItem_list hl w1 q6 (x := z) (by rw [w2]; simpa using q3) fin
        . have hsz : (vs.toArray.size : Int) = (vs.length : Int) := by simp
          exact wpAny_getItem_list_neg hl w1 (by rw [hsz]; exact w2) q5 (x := z) (by rw [hsz, w3]; simpa using q3) fin
     . rename_i xs
       dsimp only at hb ⊢
       induction e3 : pick xs c with
       | none => exact q3q (e3 ▸ hb)
       | some y =>
        obtain ⟨x, o, rfl, h1, h2, ⟨vs, n1, hr, rfl⟩⟩ := I.obj e2 ha
        obtain ⟨z, k, q1, q2, q3, q4, q5, q6, q7⟩ := done hr e3
        have hl : IsTup s.heap x vs.toArray := ⟨_, h2, rfl, n1, rfl⟩
        have fin : QOk g cx V s (repV g.ν) (optM (some y) st) z s := ⟨y, st, V, rfl, q1, I, Ext.refl _ _ _⟩
        exact qa7 hs hl.typeIs slot_tuple_getitem.lookup (getItem_tuple hl q5 q6 (by simpa using q2) (by simpa using q3) fin)
  | str k =>
   unfold subM at hb ⊢
   dsimp only at hb ⊢
   obtain ⟨t, rfl⟩ := hv
   obtain ⟨es, ep, e2⟩ := qf6 hb
   . rw [e2] at hb
     try rw [e2]
     dsimp only at hb ⊢
     induction e3 : z4q es k with
     | none => exact q3q (e3 ▸ hb)
     | some y =>
      obtain ⟨x, o, rfl, h1, h2, hr⟩ := I.obj e2 ha
      have hr' := hr
      obtain ⟨fs, _, _, rfl⟩ := hr'
      have hT : s.TypeIs (.ref x) "dict" := ⟨_, h2, rfl⟩
      refine qa7 hs hT F.slot_dict_getitem.lookup (wpAny_getItem_slot hT (by decide) F.slot_dict_getitem (wpAny_call_entry F.slot_dict_getitem hT F.entry_dict_getitem ?_ (F.args_dict_getitem_2 _ _)))
      show wpAny _ _ (dictGet x (.str ⟨k.toArray⟩ t) >>= _) _ _ s
      refine w0z (xz1 h2 hr fun v hv => ?_)
      rw [e3] at hv
      induction v with
      | none => exact hv.elim
      | some v => exact w2z ⟨v, rfl, y, st, V, rfl, hv, I.tok _, Ext.refl _ _ _⟩
  | _ => exact q3q hb
 | str x =>
  induction b with
  | int j =>
   unfold subM at hb ⊢
   dsimp only at hb ⊢
   induction e1 : j.lit? with
   | none => exact q3q (e1 ▸ hb)
   | some c =>
    rw [e1] at hb
    dsimp only at hb ⊢
    obtain ⟨t, rfl⟩ := hv
    obtain ⟨t', rfl⟩ := ha
    rw [SI.lit_val e1] at hs ⊢
    induction e3 : pick x c with
    | none => exact q3q (e3 ▸ hb)
    | some y =>
     obtain ⟨k, h1, h2, h3, h4, h5, _⟩ := xp2 e3
     refine qa7 hs (typeIs_str s _ _) F.slot_str_getitem.lookup (P.getItem_str ?_ (c := y) ?_ ?_)
     . rw [decide_eq_false (by omega), decide_eq_false (by omega)]; rfl
     . have : (⟨x.toArray⟩ : Str).length = x.length := by simp [Str.length]
       rw [this, h1]
       simpa using h2
     . exact ⟨_, st, V, rfl, ⟨_, rfl⟩, I.tok _, Ext.refl _ _ _⟩
  | _ => exact q3q hb
 | bytes x =>
  induction b with
  | int j =>
   unfold subM at hb ⊢
   dsimp only at hb ⊢
   obtain ⟨t, rfl⟩ := hv
   obtain ⟨⟨t', rfl⟩, hr⟩ := ha
   induction e1 : j.lit? with
   | none => exact q3q (e1 ▸ hb)
   | some c =>
    rw [e1] at hb
    rw [SI.lit_val e1] at hs ⊢
    induction c with
    | negSucc m => exact q3q hb
    | ofNat k =>
     dsimp only at hb ⊢
     induction e3 : pick x (.ofNat k) with
     | none => exact q3q (e3 ▸ hb)
     | some y =>
      obtain ⟨k', h1, h2, h3, h4, h5, h6⟩ := xp2 e3
      have hk : k' = k := by
       rcases h6 with ⟨_, w⟩ | ⟨w, _⟩
       . exact w.symm
       . exact absurd w (by simp)
      subst hk
      have hlt : k' < x.length := (List.getElem?_eq_some_iff.mp h2).1
      refine qa7 hs (typeIs_bytes s _ _) FB.slot_bytes_getitem.lookup (getItem_bytes (by rw [List.length_map]; exact Nat.le_trans (by assumption) (by decide)) (Int.natCast_nonneg _) (by rw [List.length_map]; show (k' : Int) < _; omega) ?_)
      have e : (x.map (qb7 g.ν)).getD (Int.ofNat k').toNat 0 = qb7 g.ν y := by
       show (x.map (qb7 g.ν)).getD k' 0 = _
       rw [List.getD_eq_getElem?_getD, List.getElem?_map, h2]; rfl
      rw [e]
      obtain ⟨w1, w2⟩ := hr y (w7z h2)
      have e2 : ((qb7 g.ν y).toNat : Int) = y.val g.ν := by
       unfold qb7
       rw [UInt8.toNat_ofNat']
       omega
      exact ⟨_, st, V, rfl, ⟨_, by rw [e2]⟩, I.tok _, Ext.refl _ _ _⟩
  | _ => exact q3q hb
 | _ => exact q3q hb
theorem k3q {value slice : Expr} {pos : Pos} {f f' : AM AV} (hs : ∀ o i, ∃ ops, subscripted slice false o i = operate ops (getItem o i)) (h : RefE g prog cx n value f) (h' : RefE g prog cx n slice f') :
 RefE g prog cx n (.Subscript value slice pos) (f.bind fun a => f'.bind fun b => subM a b) := by
 refine RefW.toX (fun A Q E s h => Subscript_ h) ?_
 refine RefW.nest Mono.true h fun a u => ?_
 refine RefW.nest (Mono.and Mono.true (z6q _ _ _)) (h'.weak fun _ _ => trivial) fun b v => ?_
 exact RefX.toW ((zj9 (hs u v)).weak fun _ h => ⟨h.1.2, h.2⟩)
theorem reps.drop {ν : Vl} {V : List Addr} : ∀ {l : List AV} {vs : List Value} (k : Nat), reps ν V l vs -> reps ν V (l.drop k) (vs.drop k)
 | l, vs, 0, h => by simpa using h
 | [], [], k + 1, _ => trivial
 | _ :: _, _ :: _, k + 1, h => by simpa using reps.drop k h.2
 | [], _ :: _, _ + 1, h => h.elim
 | _ :: _, [], _ + 1, h => h.elim
theorem reps.take {ν : Vl} {V : List Addr} : ∀ {l : List AV} {vs : List Value} (k : Nat), reps ν V l vs -> reps ν V (l.take k) (vs.take k)
 | _, _, 0, _ => trivial
 | [], [], k + 1, _ => trivial
 | _ :: _, _ :: _, k + 1, h => ⟨h.1, reps.take k h.2⟩
 | [], _ :: _, _ + 1, h => h.elim
 | _ :: _, [], _ + 1, h => h.elim
noncomputable def cut {α : Type} (lo hi : Option Nat) (xs : List α) : List α := match lo with
 | none => match hi with
  | none => xs
  | some b => xs.take b
 | some a => match hi with
  | none => xs.drop a
  | some b => (xs.take b).drop a
noncomputable def oInt : Option Nat -> Option Int
 | none => none
 | some k => some (Int.ofNat k)
theorem zh1 {α : Type} (lo hi : Option Nat) (xs : List α) : (xs.drop ((oInt lo).elim 0 (clipAt xs.length))).take ((oInt hi).elim xs.length (clipAt xs.length) - (oInt lo).elim 0 (clipAt xs.length)) = cut lo hi xs := by
 have e : ∀ k : Nat, clipAt xs.length (Int.ofNat k) = min k xs.length := fun k => clipAt_nat xs.length k
 have d : ∀ k : Nat, xs.drop (min k xs.length) = xs.drop k := fun k => by
  rcases Nat.le_total k xs.length with h | h
  . rw [Nat.min_eq_left h]
  . rw [Nat.min_eq_right h, List.drop_length, List.drop_of_length_le h]
 have t : ∀ k : Nat, xs.take (min k xs.length) = xs.take k := fun k => by
  rcases Nat.le_total k xs.length with h | h
  . rw [Nat.min_eq_left h]
  . rw [Nat.min_eq_right h, List.take_length, List.take_of_length_le h]
 induction lo with
 | none =>
  induction hi with
  | none => simp [oInt, cut]
  | some b => simp only [oInt, cut, Option.elim, e, List.drop_zero, Nat.sub_zero, t]
 | some a =>
  induction hi with
  | none => simp only [oInt, cut, Option.elim, e, d]; rw [List.take_of_length_le]; rw [List.length_drop]; rcases Nat.le_total a xs.length with h | h <;> simp [h] <;> omega
  | some b =>
   simp only [oInt, cut, Option.elim, e]
   rw [<- List.drop_take, t]
   rcases Nat.le_total a xs.length with h | h
   . rw [Nat.min_eq_left h]
   . rw [Nat.min_eq_right h, List.drop_of_length_le (by rw [List.length_take]; exact Nat.min_le_right _ _), List.drop_of_length_le (by rw [List.length_take]; exact Nat.le_trans (Nat.min_le_right _ _) (by assumption))]
noncomputable def xa9 : AV -> Option (Option Nat)
 | .none => some none
 | .int j => match j.lit? with
  | some (.ofNat k) => some (some k)
  | _ => none
 | _ => none
set_option tactic.hygienic true in
theorem xj3 {a : AV} {u : Value} {V : List Addr} {ν : Vl} {lo : Option Nat} (h : xa9 a = some lo) (hr : repV ν V a u) : IsPart u (oInt lo) := by
 cases a <;> try exact q6q h
 . obtain rfl := w4z h; subst hr; exact .none
 . rename_i j
   unfold xa9 at h
   dsimp only at h
   generalize e : j.lit? = o at h
   rcases o with _ | z <;> try exact q6q h
   rcases z with k | _ <;> try exact q6q h
   obtain rfl := w4z h
   obtain ⟨t, rfl⟩ := hr
   rw [SI.lit_val e]
   exact .int _ _
noncomputable def RefP (g : Gl) (prog : Program) (cx : Cx) (n : Nat) (e : Option Expr) (f : AM AV) : Prop := RefX g prog cx n TT (repV g.ν) (evalPart e cx.env) f
theorem xn1 : RefP g prog cx n none (AM.ret .none) := RefX.pure fun _ _ => rfl
theorem xn0 {e : Expr} {f : AM AV} (h : RefE g prog cx n e f) : RefP g prog cx n (some e) f := h
noncomputable def qv2 (a b c : AV) : AM AV := match xa9 b with
 | some lo => match xa9 c with
  | some hi => match a with
   | .ref i => fun st => match st.H.t.get i with
    | some (.list xs) => v0q xs (newM (.list (cut lo hi xs))) st
    | _ => .bad
   | .bytes x => match Nat.ble x.length 100000 with
    | true => AM.ret (.bytes (cut lo hi x))
    | false => AM.fail
   | _ => AM.fail
  | none => AM.fail
 | none => AM.fail
theorem zu6 {α : Type} {lo hi : Option Nat} {xs : List α} {x : α} (h : x ∈ cut lo hi xs) : x ∈ xs := by
 unfold cut at h
 split at h <;> split at h
 . exact h
 . exact List.mem_of_mem_take h
 . exact List.mem_of_mem_drop h
 . exact List.mem_of_mem_take (List.mem_of_mem_drop h)
theorem zu7 {α β : Type} (f : α -> β) (lo hi : Option Nat) (xs : List α) : (cut lo hi xs).map f = cut lo hi (xs.map f) := by
 unfold cut
 split <;> split <;> simp [List.map_take, List.map_drop]
theorem reps.cut {ν : Vl} {V : List Addr} {l : List AV} {vs : List Value} (lo hi : Option Nat) (h : reps ν V l vs) : reps ν V (cut lo hi l) (Mine.cut lo hi vs) := by
 unfold Mine.cut
 split <;> split
 . exact h
 . exact h.take _
 . exact h.drop _
 . exact (h.take _).drop _
theorem xz3 {α : Type} (lo hi : Option Nat) (xs : List α) : (cut lo hi xs).length <= xs.length := by
 unfold cut
 split <;> split <;> simp [List.length_take, List.length_drop] <;> omega
theorem qy7 {value : Expr} {lower upper : Option Expr} {p pos : Pos} {f fl fu : AM AV} (h : RefE g prog cx n value f) (hl : RefP g prog cx n lower fl) (hu : RefP g prog cx n upper fu) :
 RefE g prog cx n (.Subscript value (.Slice lower upper none p) pos) (f.bind fun a => fl.bind fun b => fu.bind fun c => qv2 a b c) := by
 refine RefW.toX (T := fun A Q E s => wpAny (model prog g.w) A (eval value cx.env) (fun o s₁ => wpAny (model prog g.w) A (evalPart lower cx.env) (fun l s₁ => wpAny (model prog g.w) A (evalPart upper cx.env) (fun u sC =>
  wpAny (model prog g.w) A (subscriptTail value (.Slice lower upper none p) o (.ref sC.heap.objs.size)) Q E { sC with heap := sC.heap.push { cls := .type "slice", data := .fields #[l, u, .none] } }) E s₁) E s₁) E s)
  (fun A Q E s h => Subscript_ (w3z h (fun o s₁ h₁ => wpAny_Slice (w3z h₁ (fun l sB h₂ => w3z h₂ (fun u sC h₃ => w2z h₃) fun _ _ e => e) fun _ _ e => e)) fun _ _ e => e)) ?_
 refine RefW.nest Mono.true h fun a u => ?_
 refine RefW.nest (Mono.and Mono.true (z6q _ _ _)) (hl.weak fun _ _ => trivial) fun b v => ?_
 refine RefW.nest (Mono.and (Mono.and Mono.true (z6q _ _ _)) (z6q _ _ _)) (hu.weak fun _ _ => trivial) fun c x => ?_
 intro A V st s hA hp I hb Q E hq he
 obtain ⟨⟨⟨_, ha⟩, hv⟩, hx⟩ := hp
 unfold qv2 at hb hq
 induction e1 : xa9 b with
 | none => exact q3q (e1 ▸ hb)
 | some lo =>
  induction e2 : xa9 c with
  | none => rw [e1, e2] at hb; exact q3q hb
  | some hi =>
   rw [e1, e2] at hb hq
   have pl := xj3 e1 hv
   have pu := xj3 e2 hx
   have G := I.grow (h' := s.heap.push { cls := .type "slice", data := .fields #[v, x, .none] }) s.toks (fun b o e => w6z _ e)
   have road : ∀ i, ∃ ops, subscripted (.Slice lower upper none p) false u i = operate ops (getItem u i) := fun i => ⟨_, rfl⟩
   induction a with
   | ref i =>
    dsimp only at hb hq
    induction e3 : st.H.t.get i with
    | none => exact q3q (e3 ▸ hb)
    | some ao =>
     rw [e3] at hb hq
     obtain ⟨xs, rfl⟩ : ∃ xs, ao = .list xs := by induction ao <;> first | exact ⟨_, rfl⟩ | exact q3q hb
     dsimp only at hb hq
     obtain ⟨hsh, e4⟩ := k6q hb
     rw [e4] at hb hq
     obtain ⟨y, o, rfl, h1, h2, ⟨vs, n1, hr, rfl⟩⟩ := I.obj e3 ha
     have hl : (s.heap.push { cls := .type "slice", data := .fields #[v, x, .none] }).IsList y vs.toArray := ⟨_, w6z _ h2, rfl, n1, rfl⟩
     have hT : Shared.TypeIs { s with heap := s.heap.push { cls := .type "slice", data := .fields #[v, x, .none] } } (.ref y) "list" := hl.typeIs
     refine qa7 (road _) hT slot_list_getitem.lookup (wpAny_getItem_list_slice hl (Heap.IsSliceOf.new _ _ _ _) pl pu .none (fun e => nomatch e) ?_ ?_)
     . have e5 : (slicePick vs.toArray (oInt lo) (oInt hi) none) = (cut lo hi vs).toArray := by
        rw [slicePick_plain]
        have := zh1 lo hi vs
        simpa using this
       rw [e5]
       have N := qi1 (P := fun V => reps g.ν V xs vs) (ao := .list (cut lo hi xs)) (o := { cls := .type "list", data := .seq (cut lo hi vs).toArray }) (fun V hr a => ⟨_, 0, (hr.cut lo hi).mono ⟨[a], rfl⟩, rfl⟩) rfl A V st _ hA hr G.1 hb
       obtain ⟨b', st', ρ', w1, w2, w3, w4⟩ := N
       exact hq _ _ ⟨b', st', ρ', w1, w2, w3, G.2.trans w4⟩
     . have := k4q hsh hr
       simpa using this
   | bytes b =>
    dsimp only at hb hq
    induction e3 : Nat.ble b.length 100000 with
    | false => exact q3q (e3 ▸ hb)
    | true =>
     rw [e3] at hq
     have h0 := w5z e3
     obtain ⟨⟨t, rfl⟩, hr⟩ := ha
     have hp : KBy.picked (b.map (qb7 g.ν)).toArray (oInt lo) (oInt hi) = ((cut lo hi b).map (qb7 g.ν)).toArray := by
      rw [KBc.picked_eq, zu7]
      have := zh1 lo hi (b.map (qb7 g.ν))
      simpa using this
     refine qa7 (road _) (typeIs_bytes _ _ _) FB.slot_bytes_getitem.lookup (getItem_meets (typeIs_bytes _ _ _) (by decide) FB.slot_bytes_getitem FB.entry_bytes_getitem (FB.args_bytes_getitem_2 _ _) (KBc.meets_slice2 _ t _ pl pu) ⟨Heap.IsSliceOf.new _ _ _ _, ?_, fun t' k => ?_⟩)
     . rw [hp, List.size_toArray, List.length_map]
       have := xz3 lo hi b
       have h2 : (100000 : Nat) <= sizeLine := by decide
       exact Nat.le_trans (Nat.le_trans (by assumption) (by assumption)) (by decide)
     . rw [hp]
       exact hq _ _ ⟨.bytes (cut lo hi b), st, V, rfl, ⟨⟨t', rfl⟩, fun i hi => hr i (zu6 hi)⟩, G.1.tok k, G.2⟩
   | _ => exact q3q hb
theorem xe6 {T : String} : qf2 g prog (.type T) :=
 fun _ _ _ _ _ _ _ hp h => PyProof.Rows.callWith_type hp (w3z h (fun _ _ h1 => h1.2) fun _ _ x => x)
noncomputable def xi5 (g : Gl) (prog : Program) (cx : Cx) (n : Nat) (u : Value) (F : List AV -> AM AV) : Prop := ∀ as vs, RefX g prog cx n (fun V => reps g.ν V as vs) (repV g.ν) (call u vs) (F as)
theorem ql2 {x : Str} {p pos : Pos} {es : List Expr} {fs : List (AM AV)} {T : String} {F : List AV -> AM AV} (hF : xi5 g prog cx n (.type T) F)
 (hx : RefE g prog cx n (.Name x p) (AM.ret (.stat (.type T)))) (hs : qc0 g prog cx n es fs) : RefE g prog cx n (.Call (.Name x p) es [] pos) ((q8q fs).bind F) :=
 xi4 hx xe6 hs hF
noncomputable def one (f : AV -> AM AV) (as : List AV) : AM AV := match as with
 | [a] => f a
 | _ => AM.fail
theorem qm4 {u : Value} {f : AV -> AM AV} (h : ∀ a v, RefX g prog cx n (fun V => repV g.ν V a v) (repV g.ν) (call u [v]) (f a)) : xi5 g prog cx n u (one f) := by
 intro as vs A V st s hA hp I hb
 induction as with
 | nil => exact q3q hb
 | cons a l =>
  induction l with
  | cons => exact q3q hb
  | nil =>
   induction vs with
   | nil => exact hp.elim
   | cons v l =>
    induction l with
    | cons => exact hp.2.elim
    | nil => exact h a v A V st s hA hp.1 I hb
noncomputable def qm6 (k : Nat) : AM AV := match Nat.ble k 100000 with
 | true => AM.ret (litI (.ofNat k))
 | false => AM.fail
theorem qg8 {k : Nat} {st : St} (h : qm6 k st ≠ .bad) : k <= 100000 /\ qm6 k st = .ok (litI (.ofNat k)) st := by
 unfold qm6 at h ⊢
 induction e : Nat.ble k 100000 with
 | true => exact ⟨w5z e, rfl⟩
 | false => exact q3q (e ▸ h)
noncomputable def qw3 : List (List Nat × AV) -> List DictEntry -> List (Str × Value)
 | a :: l, e :: r => (⟨a.1.toArray⟩, e.val) :: qw3 l r
 | _, _ => []
theorem qw2 {V : List Addr} (p : Program) : ∀ {es : List (List Nat × AV)} {fs : List DictEntry}, k1q g V es fs -> Pairs (strKind p g.w) fs (qw3 es fs)
 | [], [], _ => .nil
 | [], _ :: _, h => h.elim
 | _ :: _, [], h => h.elim
 | a :: l, e :: r, h => by
  obtain ⟨⟨⟨t, h1⟩, h2⟩, _, h4⟩ := h
  exact .cons (by rw [h1]; exact u3q p g.w a.1 t) rfl (qw2 p h4)
theorem qr6 {V : List Addr} : ∀ {es : List (List Nat × AV)} {fs : List DictEntry}, k1q g V es fs -> (qw3 es fs).map (·.1) = es.map fun a => (⟨a.1.toArray⟩ : Str)
 | [], [], _ => rfl
 | [], _ :: _, h => h.elim
 | _ :: _, [], h => h.elim
 | a :: l, e :: r, h => by rw [qw3, List.map_cons, List.map_cons, qr6 h.2.2]
theorem xx7 {es : List (List Nat × AV)} (h : (es.map (·.1)).Nodup) : (es.map fun a => (⟨a.1.toArray⟩ : Str)).Nodup := by
 have e : (es.map fun a => (⟨a.1.toArray⟩ : Str)) = (es.map (·.1)).map fun a => (⟨a.toArray⟩ : Str) := by rw [List.map_map]; rfl
 rw [e]
 refine List.Pairwise.map (R := fun a b => a ≠ b) _ (fun a b hab z => hab ?_) h
 injection z with z
 simpa using z
theorem qh1 {V : List Addr} {o : Obj} {es : List (List Nat × AV)} {ep : Nat} {d : Addr} {h : Heap} (ho : h.get? d = some o) (hr : j2q g V o (.dict es ep)) : ∃ fs, k1q g V es fs /\ o = ⟨.type "dict", none, .dict fs.toArray ep, #[]⟩ /\ h.DictAt (strKind prog g.w) d (qw3 es fs) ep /\ (qw3 es fs).length = es.length := by
 obtain ⟨fs, h1, h2, rfl⟩ := hr
 refine ⟨fs, h1, rfl, ⟨_, _, ho, ⟨rfl, rfl, rfl⟩, rfl, fun e he => h1.keysOf prog e (List.mem_toArray.mp he), qw2 prog h1, ?_⟩, ?_⟩
 . rw [qr6 h1]; exact xx7 h2
 . have := congrArg List.length (qr6 h1)
   simpa using this
noncomputable def lenM (a : AV) : AM AV := match a with
 | .str s => qm6 s.length
 | .bytes b => qm6 b.length
 | .ref i => fun st => match st.H.t.get i with
  | some (.list xs) => qm6 xs.length st
  | some (.tuple xs) => qm6 xs.length st
  | some (.dict es _) => qm6 es.length st
  | _ => .bad
 | _ => AM.fail
theorem xj6 (hs : ∃ o, g.U.get? sysModules = some o) {V : List Addr} {st : St} {s : Shared} (I : Inv g cx V st s) {i : Nat} {a : Addr} (h : V[i]? = some a) : (a == sysModules) = false := by
 refine beq_eq_false_iff_ne.mpr fun z => ?_
 have := (I.own a (w7z h)).1
 obtain ⟨o, e⟩ := hs
 rw [z, e] at this
 exact k2q this
set_option tactic.hygienic true in
theorem qd2 (hs : ∃ o, g.U.get? sysModules = some o) : BiOk g prog cx n "len" (one lenM) := by
 refine qm4 fun a v => ?_
 intro A V st s hA hp I hb
 unfold lenM at hb ⊢
 have fin : ∀ {k : Nat} {t u : Tok}, qm6 k st ≠ .bad -> QOk g cx V s (repV g.ν) (qm6 k st) (.int k t) { s with toks := u } := by
  intro k t u hk
  obtain ⟨h1, h2⟩ := qg8 hk
  rw [h2]
  exact ⟨_, st, V, rfl, qu8 g.ν V (.ofNat k) t, I.tok _, Ext.refl _ _ _⟩
 induction a <;> try exact q3q hb
 . rename_i x
   obtain ⟨t, rfl⟩ := hp
   have h1 := (qg8 hb).1
   have e : (⟨x.toArray⟩ : Str).length = x.length := by simp [Str.length]
   refine P.len_str (by rw [e]; exact Int.not_le.mpr (zn3 (Nat.le_trans (by assumption) (by decide)))) ?_
   rw [e]
   exact fin hb
 . rename_i b
   obtain ⟨⟨t, rfl⟩, _⟩ := hp
   have h1 := (qg8 hb).1
   refine len_bytes (by simp; exact Nat.le_trans (by assumption) (by decide)) ?_
   rw [List.size_toArray, List.length_map]
   exact fin hb
 . rename_i i
   dsimp only at hb ⊢
   induction e2 : st.H.t.get i with
   | none => exact q3q (e2 ▸ hb)
   | some ao =>
    rw [e2] at hb
    obtain ⟨x, o, rfl, h1, h2, hr⟩ := I.obj e2 hp
    induction ao <;> try exact q3q hb
    . obtain ⟨vs, n1, hr, rfl⟩ := hr
      have hl : s.heap.IsList x vs.toArray := ⟨_, h2, rfl, n1, rfl⟩
      have h3 := (qg8 hb).1
      refine call_len_list hl (by simp; rw [<- hr.length]; exact zn3 (Nat.le_trans (by assumption) (by decide))) ?_
      have e : (vs.toArray.size) = _ := (List.size_toArray (as := vs)).trans hr.length.symm
      rw [e]
      exact fin hb
    . obtain ⟨vs, n1, hr, rfl⟩ := hr
      have hl : IsTup s.heap x vs.toArray := ⟨_, h2, rfl, n1, rfl⟩
      have h3 := (qg8 hb).1
      refine PyProof.Rows.len_tuple hl (by simp; rw [<- hr.length]; exact zn3 (Nat.le_trans (by assumption) (by decide))) ?_
      have e : (vs.toArray.size) = _ := (List.size_toArray (as := vs)).trans hr.length.symm
      rw [e]
      exact fin hb
    . rename_i es ep
      obtain ⟨fs, q1, q2, q3, q4⟩ := qh1 (prog := prog) h2 hr
      have h3 := (qg8 hb).1
      refine call_len_dict (xj6 hs I h1) q3.dictOf (by rw [q4]; exact zn3 (Nat.le_trans (by assumption) (by decide))) ?_
      rw [q4]
      exact fin hb
noncomputable def zt9 (a : AV) : AM AV := match a with
 | .str [c] => AM.ret (litI (.ofNat c))
 | _ => AM.fail
theorem zt8 : BiOk g prog cx n "ord" (one zt9) := by
 refine qm4 fun a v => ?_
 intro A V st s hA hp I hb
 unfold zt9 at hb ⊢
 split at hb
 . obtain ⟨t, rfl⟩ := hp
   exact P.ord_of_char ⟨_, st, V, rfl, qu8 g.ν V _ _, I.tok _, Ext.refl _ _ _⟩
 . exact q3q hb
noncomputable def qt6 : List AV -> Option (List SI)
 | [] => some []
 | .int i :: l => match qt6 l with
  | some r => some (i :: r)
  | none => none
 | _ :: _ => none
set_option tactic.hygienic true in
theorem qx9 {ν : Vl} {V : List Addr} : ∀ {xs : List AV} {is : List SI} {vs : List Value}, qt6 xs = some is -> reps ν V xs vs -> IntsAre vs (is.map (SI.val ν))
 | [], is, [], h, _ => by obtain rfl := w4z h; exact .nil
 | [], _, _ :: _, _, h => h.elim
 | _ :: _, _, [], _, h => h.elim
 | a :: l, is, v :: vs, h, hr => by
  induction a <;> simp only [qt6] at h <;> try exact q6q h
  rename_i i
  induction e : qt6 l with
  | none => exact q6q (e ▸ h)
  | some r =>
   obtain rfl := w4z (e ▸ h)
   obtain ⟨⟨t, rfl⟩, hr⟩ := hr
   exact .cons _ _ (qx9 e hr)
noncomputable def zb4 : List SI -> SI -> Option SI
 | [], a => some a
 | i :: l, a => match a.add i with
  | some b => zb4 l b
  | none => none
theorem xs3 (ν : Vl) : ∀ (l : List SI) (a b : SI), zb4 l a = some b -> b.val ν = a.val ν + (l.map (SI.val ν)).sum
 | [], a, b, h => by obtain rfl := w4z h; simp
 | i :: l, a, b, h => by
  rw [zb4] at h
  induction e : a.add i with
  | none => rw [e] at h; exact q6q h
  | some c =>
   rw [e] at h
   have := xs3 ν l c b h
   rw [this, SI.add_ok e, List.map_cons, List.sum_cons]
   exact Int.add_assoc ..
noncomputable def sumM (a : AV) : AM AV := match a with
 | .ref i => qb8 i fun xs => match qt6 xs with
  | some is => match zb4 is (.lin 0 0 0) with
   | some r => AM.ret (.int r)
   | none => AM.fail
  | none => AM.fail
 | _ => AM.fail
theorem zr0 (hq : cx.q = true) : BiOk g prog cx n "sum" (one sumM) := by
 refine qm4 fun a v => ?_
 intro A V st s hA hp I hb
 unfold sumM at hb ⊢
 obtain ⟨i, rfl⟩ := x7q hb
 dsimp only at hb ⊢
 obtain ⟨xs, e1, e2⟩ := y1q hb
 rw [e2] at hb ⊢
 induction e3 : qt6 xs with
 | none => exact q3q (e3 ▸ hb)
 | some is =>
  rw [e3] at hb
  dsimp only at hb ⊢
  induction e4 : zb4 is (.lin 0 0 0) with
  | none => exact q3q (e4 ▸ hb)
  | some r =>
   obtain ⟨x, o, rfl, h1, h2, ⟨vs, n1, hr, rfl⟩⟩ := I.obj e1 hp
   have hl : s.heap.IsList x vs.toArray := ⟨_, h2, rfl, n1, rfl⟩
   have hi := qx9 e3 hr
   obtain ⟨ys, hy⟩ := hi.allInts.items
   have hl' : s.heap.IsList x (intItems ys) := hy ▸ hl
   refine PySem.sum_intListG (hA.quiet hq) hl' fun h' tk t' hk => ?_
   have e5 : preSum (numAt ys) ys.size = r.val g.ν := by
    have e6 := nums_intItems ys
    have e7 : numsOf vs = is.map (SI.val g.ν) := hi.numsOf
    rw [preSum_eq, List.take_of_length_le (by simp)] 
    have e8 : (intItems ys).toList = vs := by rw [<- hy]
    have := xs3 g.ν _ _ _ e4
    rw [this, SI.val_lit, Int.zero_add, <- e7, <- e8, e6]
   have Z := I.grow (h' := h') tk hk
   exact ⟨_, st, V, rfl, ⟨t', by rw [e5]⟩, Z.1, Z.2⟩
noncomputable def xv8 (i : SI) : Bool := match i with
 | .lin a b c => decide (0 <= a /\ a < 256 /\ b = 0 /\ c = 0) || decide (a = 0 /\ b = 1 /\ c = 0) || decide (a = 0 /\ b = 0 /\ c = 1)
 | _ => false
theorem zi3 (G : GOk g) {i : SI} (h : xv8 i = true) : 0 <= i.val g.ν /\ i.val g.ν < 256 := by
 obtain ⟨a0, b0, a1, b1⟩ := G.lv
 induction i with
 | lin a b c =>
  unfold xv8 at h
  simp only [Bool.or_eq_true, decide_eq_true_eq] at h
  show 0 <= a + b * g.ν.v0 + c * g.ν.v1 /\ a + b * g.ν.v0 + c * g.ν.v1 < 256
  rcases h with (⟨h1, h2, rfl, rfl⟩ | ⟨rfl, rfl, rfl⟩) | ⟨rfl, rfl, rfl⟩ <;> omega
 | _ => exact j7q h
noncomputable def allB {α : Type} (f : α -> Bool) : List α -> Bool
 | [] => true
 | a :: l => match f a with
  | true => allB f l
  | false => false
theorem xw4 {α : Type} {f : α -> Bool} : ∀ {l : List α}, allB f l = true -> ∀ a ∈ l, f a = true
 | [], _, a, h => by cases h
 | b :: l, h, a, ha => by
  unfold allB at h
  split at h
  . rename_i e
    rcases List.mem_cons.mp ha with q | q
    . exact q ▸ e
    . exact xw4 h a q
  . exact j7q h
noncomputable def xr4 (a : AV) : AM AV := match a with
 | .ref i => qb8 i fun xs => v0q xs (match qt6 xs with
  | some is => match allB xv8 is with
   | true => AM.ret (.bytes is)
   | false => AM.fail
  | none => AM.fail)
 | _ => AM.fail
theorem zi2 (G : GOk g) (hq : cx.q = true) : xi5 g prog cx n (.type "bytes") (one xr4) := by
 refine qm4 fun a v => ?_
 intro A V st s hA hp I hb
 unfold xr4 at hb ⊢
 obtain ⟨i, rfl⟩ := x7q hb
 dsimp only at hb ⊢
 obtain ⟨xs, e1, e2⟩ := y1q hb
 rw [e2] at hb ⊢
 obtain ⟨e5, e6⟩ := k6q hb
 rw [e6] at hb ⊢
 induction e3 : qt6 xs with
 | none => exact q3q (e3 ▸ hb)
 | some is =>
  rw [e3] at hb
  dsimp only at hb ⊢
  induction e4 : allB xv8 is with
  | false => exact q3q (e4 ▸ hb)
  | true =>
   obtain ⟨x, o, rfl, h1, h2, ⟨vs, n1, hr, rfl⟩⟩ := I.obj e1 hp
   have hl : s.heap.IsList x vs.toArray := ⟨_, h2, rfl, n1, rfl⟩
   have hi := qx9 e3 hr
   have hB : ∀ j ∈ is, 0 <= j.val g.ν /\ j.val g.ν < 256 := fun j hj => zi3 G (xw4 e4 j hj)
   refine call_bytes_ints hl hi (fun k hk => ?_) (k4q e5 hr) (hA.quiet hq) fun h' t k hk => ?_
   . obtain ⟨j, hj, rfl⟩ := List.mem_map.mp hk
     exact hB j hj
   . have Z := I.grow (h' := h') k hk
     refine ⟨_, st, V, rfl, ⟨⟨t, ?_⟩, hB⟩, Z.1, Z.2⟩
     congr 1
     unfold byteArr
     rw [List.map_map]
     rfl
noncomputable def xa2 (a : AV) : AM AV := match a with
 | .int _ => AM.ret (.stat (.type "int"))
 | .ref i => qb8 i fun _ => AM.ret (.stat (.type "list"))
 | _ => AM.fail
theorem qu5 : xi5 g prog cx n (.type "type") (one xa2) := by
 refine qm4 fun a v => ?_
 intro A V st s hA hp I hb
 unfold xa2 at hb ⊢
 induction a <;> try exact q3q hb
 . obtain ⟨t, rfl⟩ := hp
   exact call_type_of (typeIs_int s _ t) (by decide) ⟨_, st, V, rfl, rfl, I, Ext.refl _ _ _⟩
 . dsimp only at hb ⊢
   obtain ⟨xs, e1, e2⟩ := y1q hb
   rw [e2]
   obtain ⟨x, o, rfl, h1, h2, ⟨vs, n1, hr, rfl⟩⟩ := I.obj e1 hp
   have hl : s.heap.IsList x vs.toArray := ⟨_, h2, rfl, n1, rfl⟩
   exact call_type_of hl.typeIs (by decide) ⟨_, st, V, rfl, rfl, I, Ext.refl _ _ _⟩
noncomputable def xo3 (a : AV) : AM AV := match a with
 | .ref i => qb8 i fun xs => v0q xs (newM (.tuple xs))
 | _ => AM.fail
theorem zb0 : xi5 g prog cx n (.type "tuple") (one xo3) := by
 refine qm4 fun a v => ?_
 intro A V st s hA hp I hb
 unfold xo3 at hb ⊢
 obtain ⟨i, rfl⟩ := x7q hb
 dsimp only at hb ⊢
 obtain ⟨xs, e1, e2⟩ := y1q hb
 rw [e2] at hb ⊢
 obtain ⟨e5, e6⟩ := k6q hb
 rw [e6] at hb ⊢
 obtain ⟨x, o, rfl, h1, h2, ⟨vs, n1, hr, rfl⟩⟩ := I.obj e1 hp
 have hl : s.heap.IsList x vs.toArray := ⟨_, h2, rfl, n1, rfl⟩
 refine call_tuple_list hl (fun h' hk => ?_) (by simpa using k4q e5 hr)
 have Z := I.grow (h' := h') s.toks hk
 obtain ⟨b', st', ρ', w1, w2, w3, w4⟩ := qi1 (P := fun V => reps g.ν V xs vs) (ao := .tuple xs) (o := { cls := .type "tuple", data := .seq vs.toArray }) (fun V hr a => ⟨vs, 0, hr.mono ⟨[a], rfl⟩, rfl⟩) rfl A V st _ hA hr Z.1 hb
 exact ⟨b', st', ρ', w1, w2, w3, Z.2.trans w4⟩
theorem qn8 (l : Addr) (vs : Array Value) : Meets (Builtin.«bool.__new__» ⟨[.type "bool", .ref l], []⟩) (fun _ R s => s.heap.IsList l vs /\ (vs.size : Int) < 2 ^ 63 /\ R (.ok (.ret (.bool (!vs.isEmpty)))) { s with toks := s.toks + 1 + 1 }) :=
 Meets.of_wp fun prog w A R s hs => by
  obtain ⟨hl, hz, h⟩ := hs
  have f1 := F.conv_sub_bool
  have T : ∀ (A : Around) (Q : Bool -> Shared -> Prop) (E : VP), Q (!vs.isEmpty) { s with toks := s.toks + 1 + 1 } -> wpAny (model prog w) A (truthy (.ref l)) Q E s := fun A Q E h => wpAny_truthy_list hl hz h
  obtain ⟨hp, g, d, tk, os⟩ := s
  repeat (any_goals (first | assumption | with_reducible apply T | wp_step))
  all_goals first | exact ⟨_, rfl, h⟩ | skip
noncomputable def zi5 (a : AV) : AM AV := match a with
 | .ref i => qb8 i fun xs => v0q xs (AM.ret (.bool (!xs.isEmpty)))
 | _ => AM.fail
theorem zp8 : xi5 g prog cx n (.type "bool") (one zi5) := by
 refine qm4 fun a v => ?_
 intro A V st s hA hp I hb
 unfold zi5 at hb ⊢
 obtain ⟨i, rfl⟩ := x7q hb
 dsimp only at hb ⊢
 obtain ⟨xs, e1, e2⟩ := y1q hb
 rw [e2] at hb ⊢
 obtain ⟨e5, e6⟩ := k6q hb
 rw [e6]
 obtain ⟨x, o, rfl, h1, h2, ⟨vs, n1, hr, rfl⟩⟩ := I.obj e1 hp
 have hl : s.heap.IsList x vs.toArray := ⟨_, h2, rfl, n1, rfl⟩
 have hsz := k4q e5 hr
 rw [sizeLine_eq] at hsz
 refine call_bool_1 (qn8 x vs.toArray) ⟨hl, by simp; omega, rfl, ?_⟩
 rw [qw6 xs vs hr.length]
 exact ⟨_, st, V, rfl, rfl, I.tok _, Ext.refl _ _ _⟩
noncomputable def jg6 (as : List AV) : AM AV := match as with
 | [] => newM (.set [])
 | _ => AM.fail
theorem zt5 : xi5 g prog cx n (.type "set") jg6 := by
 intro as vs A V st s hA hp I hb
 induction as with
 | cons => exact q3q hb
 | nil =>
  induction vs with
  | cons => exact hp.elim
  | nil =>
   refine call_set_0 fun led => ?_
   refine qi1 (P := TT) (ao := .set []) (fun V _ a => ⟨⟨rfl, rfl, rfl⟩, #[], 0, .fresh 0 0 led, rfl, fun e he => ?_, fun k => ?_, ?_, ?_, ?_⟩) rfl A V st s hA trivial I hb
   . cases he
   . simp
   . decide
   . rfl
   . simp
noncomputable def qx6 (K : AV -> St -> Bool) (a : AV) (k : AM AV) : AM AV := fun st => Bool.rec (motive := fun _ => Out AV) .bad (k st) (K a st)
noncomputable def qe4 (K : AV -> St -> Bool) (f : AM AV) (fs : List (AM AV)) (F : List AV -> AM AV) : AM AV := f.bind fun a => qx6 K a ((q8q fs).bind fun as => F (a :: as))
noncomputable def GmOk (g : Gl) (prog : Program) (cx : Cx) (name : Str) (id : String) (K : AV -> St -> Bool) : Prop :=
 ∀ V st s a u, repV g.ν V a u -> Inv g cx V st s -> K a st = true -> ∀ (A : Around) (pl : Sem Bool) (Q : Value × List Value -> Shared -> Prop) (E : VP), Q (.builtin id, [u]) s -> wpAny (model prog g.w) A (getMethod u name pl) Q E s
theorem qe9 {o : Expr} {name : Str} {apos pos : Pos} {es : List Expr} {f : AM AV} {fs : List (AM AV)} {id : String} {K : AV -> St -> Bool} {F : List AV -> AM AV} (hK : GmOk g prog cx name id K) (hF : BiOk g prog cx n id F)
 (h : RefE g prog cx n o f) (hs : qc0 g prog cx n es fs) (pl : Sem Bool) (he : eval (.Call (.Attribute o name apos) es [] pos) cx.env = (do
  let ov <- eval o cx.env
  standAt apos.atName
  let (f, first) <- holding [ov] (getMethod ov name pl)
  callWith pos f first (backTo pos (starEach es cx.env)) [])) : RefE g prog cx n (.Call (.Attribute o name apos) es [] pos) (qe4 K f fs F) := by
 refine RefW.toX (fun A Q E s h => MethodCall_ h he) ?_
 refine RefW.nest Mono.true h fun a u => ?_
 intro A V st s hA hp I hb Q E hq hx
 unfold qx6 at hb hq hx
 induction hk : K a st with
 | false => rw [hk] at hb; exact q3q hb
 | true =>
  rw [hk] at hb hq hx
  refine hK V st s a u hp.2 I hk A pl _ E ?_
  exact (qx7 (pos := pos) (first := [u]) (ff := [a]) xu1 hs hF).toW A V st s hA ⟨hp.2, trivial⟩ I hb Q E hq hx
noncomputable def two (f : AV -> AV -> AM AV) (as : List AV) : AM AV := match as with
 | [a, b] => f a b
 | _ => AM.fail
noncomputable def zj7 (f : AV -> AV -> AV -> AM AV) (as : List AV) : AM AV := match as with
 | [a, b, c] => f a b c
 | _ => AM.fail
theorem zt2 {f : AV -> AV -> AM AV} {as : List AV} (h : two f as ≠ AM.fail) : ∃ a b, as = [a, b] := by
 induction as with
 | nil => exact (h rfl).elim
 | cons a l => induction l with
  | nil => exact (h rfl).elim
  | cons b l => induction l with
   | nil => exact ⟨a, b, rfl⟩
   | cons _ _ => exact (h rfl).elim
theorem zb1 {f : AV -> AV -> AV -> AM AV} {as : List AV} (h : zj7 f as ≠ AM.fail) : ∃ a b c, as = [a, b, c] := by
 induction as with
 | nil => exact (h rfl).elim
 | cons a l => induction l with
  | nil => exact (h rfl).elim
  | cons b l => induction l with
   | nil => exact (h rfl).elim
   | cons c l => induction l with
    | nil => exact ⟨a, b, c, rfl⟩
    | cons _ _ => exact (h rfl).elim
theorem xs1 {u : Value} {f : AV -> AV -> AM AV} (h : ∀ a b v w, RefX g prog cx n (fun V => repV g.ν V a v /\ repV g.ν V b w) (repV g.ν) (call u [v, w]) (f a b)) : xi5 g prog cx n u (two f) := by
 intro as vs A V st s hA hp I hb
 obtain ⟨a, b, rfl⟩ := zt2 (fun z => hb (congrFun z st))
 obtain ⟨v, w, rfl, h1, h2⟩ := zk2 hp
 exact h a b v w A V st s hA ⟨h1, h2⟩ I hb
theorem zj6 {u : Value} {f : AV -> AV -> AV -> AM AV} (h : ∀ a b c v w x, RefX g prog cx n (fun V => repV g.ν V a v /\ repV g.ν V b w /\ repV g.ν V c x) (repV g.ν) (call u [v, w, x]) (f a b c)) : xi5 g prog cx n u (zj7 f) := by
 intro as vs A V st s hA hp I hb
 obtain ⟨a, b, c, rfl⟩ := zb1 (fun z => hb (congrFun z st))
 obtain ⟨v, w, x, rfl, h1, h2, h3⟩ := reps3 hp
 exact h a b c v w x A V st s hA ⟨h1, h2, h3⟩ I hb
noncomputable def u4q (a : AV) (st : St) : Bool := match a with
 | .ref i => match st.H.t.get i with
  | some (.list _) => true
  | _ => false
 | _ => false
set_option tactic.hygienic true in
theorem xx9 {a : AV} {st : St} (h : u4q a st = true) : ∃ i xs, a = .ref i /\ st.H.t.get i = some (.list xs) := by
 cases a <;> try exact j7q h
 rename_i i
 unfold u4q at h
 dsimp only at h
 generalize e : st.H.t.get i = o at h
 rcases o with _ | o <;> try exact j7q h
 cases o <;> try exact j7q h
 exact ⟨i, _, rfl, e⟩
theorem qe5 {name : Str} {id : String} (slot : Slot "list" name id) (hty : typeOf (.builtin id) = pure (.type "method_descriptor")) : GmOk g prog cx name id u4q := by
 intro V st s a u hr I hk A pl Q E h
 obtain ⟨i, xs, rfl, e⟩ := xx9 hk
 obtain ⟨x, o, rfl, h1, h2, ⟨vs, n1, hr, rfl⟩⟩ := I.obj e hr
 exact getMethod_list_of slot hty ⟨_, h2, rfl, n1, rfl⟩ ⟨_, h2, rfl⟩ h
theorem qe2 {V : List Addr} {st : St} {s : Shared} (I : Inv g cx V st s) {i : Nat} {x : Addr} {vs : List Value} {n1 : Nat} (h1 : V[i]? = some x) (h2 : s.heap.get? x = some ⟨.type "list", none, .seq vs.toArray n1, #[]⟩)
 {f : Array Value -> Array Value} {ys : List AV} {ws : List Value} (hf : f vs.toArray = ws.toArray) (hr : reps g.ν V ys ws) (hl : Nat.blt i z5q = true) (tk : Nat) :
 Inv g cx V { st with H := st.H.set i (.list ys) } { s with heap := s.heap.update x (Obj.mapSeq f), toks := tk } /\ Ext cx V s.heap V (s.heap.update x (Obj.mapSeq f)) := by
 refine I.upd tk (i := i) (a := x) (o := Obj.mapSeq f ⟨.type "list", none, .seq vs.toArray n1, #[]⟩) h1 (fun b hb => Heap.get?_update_other s.heap _ (Ne.symm hb)) (Heap.get?_update_self _ h2 rfl) ?_ hl
 refine ⟨ws, if ws.toArray.size == vs.toArray.size then n1 else n1 + 1, hr, ?_⟩
 unfold Obj.mapSeq
 dsimp only
 rw [hf]
noncomputable def qg0 (a b : AV) : AM AV := match a with
 | .ref i => qb8 i fun xs => v0q xs (setM i (.list (xs ++ [b])) (AM.ret .none))
 | _ => AM.fail
theorem qb9 : BiOk g prog cx n "list.append" (two qg0) := by
 refine xs1 fun a b v w => ?_
 intro A V st s hA hp I hb
 obtain ⟨ha, hw⟩ := hp
 unfold qg0 at hb ⊢
 obtain ⟨i, rfl⟩ := x7q hb
 dsimp only at hb ⊢
 obtain ⟨xs, e1, e2⟩ := y1q hb
 rw [e2] at hb ⊢
 obtain ⟨e5, e6⟩ := k6q hb
 rw [e6] at hb ⊢
 obtain ⟨e7, e8⟩ := qe1 hb
 rw [e8]
 obtain ⟨x, o, rfl, h1, h2, ⟨vs, n1, hr, rfl⟩⟩ := I.obj e1 ha
 refine wpAny_call_entry slot_list_append ⟨_, h2, rfl⟩ entry_list_append ?_ (args_list_append _ _)
 show wpAny _ _ (updateSeq x (·.push w) >>= fun _ => ret .none) _ _ s
 have Z := qe2 I h1 h2 (f := (·.push w)) (ys := xs ++ [b]) (ws := vs ++ [w]) (by simp) (hr.app ⟨hw, trivial⟩) e7 s.toks
 exact w0z (wpAny_updateSeq h2 rfl (w2z ⟨.none, rfl, .none, _, V, rfl, rfl, Z.1, Z.2⟩) (hz := by simpa using k4q e5 hr) (_hz' := by have := k4q e5 hr; simp; assumption))
noncomputable def xq6 (a b c : AV) : AM AV := match a with
 | .ref i => match b with
  | .int j => match j.lit? with
   | some (.ofNat k) => qb8 i fun xs => v0q xs (qw8 (Nat.ble k xs.length) (setM i (.list (xs.take k ++ c :: xs.drop k)) (AM.ret .none)))
   | _ => AM.fail
  | _ => AM.fail
 | _ => AM.fail
set_option maxRecDepth 100000 in
theorem zf7 : BiOk g prog cx n "list.insert" (zj7 xq6) := by
 refine zj6 fun a b c v w y => ?_
 intro A V st s hA hp I hb
 obtain ⟨ha, hw, hy⟩ := hp
 unfold xq6 at hb ⊢
 obtain ⟨i, rfl⟩ := x7q hb
 obtain ⟨j, rfl⟩ := xq5 hb
 dsimp only at hb ⊢
 obtain ⟨t, rfl⟩ := hw
 induction e0 : j.lit? with
 | none => rw [e0] at hb; exact q3q hb
 | some c0 =>
  induction c0 with
  | negSucc m => rw [e0] at hb; exact q3q hb
  | ofNat k =>
   rw [e0] at hb
   rw [SI.lit_val e0]
   dsimp only at hb ⊢
   obtain ⟨xs, e1, e2⟩ := y1q hb
   rw [e2] at hb ⊢
   obtain ⟨e5, e6⟩ := k6q hb
   rw [e6] at hb ⊢
   obtain ⟨e9, e10⟩ := qp9 hb
   rw [e10] at hb ⊢
   obtain ⟨e7, e8⟩ := qe1 hb
   rw [e8]
   have hk := w5z e9
   obtain ⟨x, o, rfl, h1, h2, ⟨vs, n1, hr, rfl⟩⟩ := I.obj e1 ha
   have hsz := k4q e5 hr
   have hl : xs.length <= 100000 := w5z e5
   have hfit : Builtin.List.listFitsIndex (Int.ofNat k) = true := fitsIndex_of (Int.natCast_nonneg k) (by show (k : Int) < _; omega)
   have hz : vs.toArray.size <= sizeLine := by simpa using hsz
   have hf : (fun xs : Array Value => have k := if (Int.ofNat k) < 0 then ((Int.ofNat k) + (xs.size : Int)).toNat else min (Int.ofNat k).toNat xs.size; (xs.extract 0 k).push y ++ xs.extract k) vs.toArray = (vs.take k ++ y :: vs.drop k).toArray := by
    have hn : ¬ (Int.ofNat k < 0) := by simp
    dsimp only
    rw [if_neg hn]
    have hm : min (Int.ofNat k).toNat vs.toArray.size = k := by
     have : k <= vs.length := by rw [<- hr.length]; exact hk
     simp [this]
    rw [hm]
    have : List.take (vs.length - k) (List.drop k vs) = List.drop k vs := List.take_of_length_le (by rw [List.length_drop]; exact Nat.le_refl _)
    simp [this]
   have hrr : reps g.ν V (xs.take k ++ c :: xs.drop k) (vs.take k ++ y :: vs.drop k) := (hr.take k).app (l' := c :: xs.drop k) (vs' := y :: vs.drop k) ⟨hy, hr.drop k⟩
   generalize Int.ofNat k = z at hfit hf
   have hc : ¬(!Builtin.List.listFitsIndex z) = true := by rw [hfit]; exact Bool.false_ne_true
   have M := AutoSeq1.list_insert_list_int_val_1 x vs.toArray n1 z t y hc hz
   have Z := qe2 I h1 h2 (f := fun xs : Array Value => have k := if z < 0 then (z + (xs.size : Int)).toNat else min z.toNat xs.size; (xs.extract 0 k).push y ++ xs.extract k) (ys := xs.take k ++ c :: xs.drop k) hf hrr e7 s.toks
   exact call_meets PySem.F.slot_list_insert ⟨_, h2, rfl⟩ PySem.F.entry_list_insert (PySem.F.args_list_insert_3 _ _ _) M ⟨h2, .none, _, V, rfl, rfl, Z.1, Z.2⟩
noncomputable def zh6 (a : AV) : AM AV := match a with
 | .ref i => qb8 i fun xs => v0q xs (setM i (.list []) (AM.ret .none))
 | _ => AM.fail
theorem zo9 : BiOk g prog cx n "list.clear" (one zh6) := by
 refine qm4 fun a v => ?_
 intro A V st s hA hp I hb
 unfold zh6 at hb ⊢
 obtain ⟨i, rfl⟩ := x7q hb
 dsimp only at hb ⊢
 obtain ⟨xs, e1, e2⟩ := y1q hb
 rw [e2] at hb ⊢
 obtain ⟨e5, e6⟩ := k6q hb
 rw [e6] at hb ⊢
 obtain ⟨e7, e8⟩ := qe1 hb
 rw [e8]
 obtain ⟨x, o, rfl, h1, h2, ⟨vs, n1, hr, rfl⟩⟩ := I.obj e1 hp
 have hsz := k4q e5 hr
 refine call_meets PySem.F.slot_list_clear ⟨_, h2, rfl⟩ PySem.F.entry_list_clear (PySem.F.args_list_clear_1 _) (AutoSeq1.list_clear_list_0 x vs.toArray n1 (by simpa using hsz)) ⟨h2, ?_⟩
 have Z := qe2 I h1 h2 (f := fun _ => #[]) (ys := []) (ws := []) rfl trivial e7 s.toks
 exact ⟨.none, _, V, rfl, rfl, Z.1, Z.2⟩
noncomputable def xt8 : List AV -> Option AV
 | [] => none
 | [a] => some a
 | _ :: b :: l => xt8 (b :: l)
noncomputable def xu5 : List AV -> List AV
 | [] => []
 | [_] => []
 | a :: b :: l => a :: xu5 (b :: l)
theorem xk3 {ν : Vl} {V : List Addr} : ∀ {xs : List AV} {vs : List Value} {a : AV}, reps ν V xs vs -> xt8 xs = some a -> ∃ v, vs[vs.length - 1]? = some v /\ repV ν V a v /\ reps ν V (xu5 xs) (vs.eraseIdx (vs.length - 1))
 | [], _, _, _, h => by exact q6q h
 | _ :: _, [], _, h, _ => h.elim
 | [b], [v], a, hr, h => by obtain rfl := w4z h; exact ⟨v, rfl, hr.1, trivial⟩
 | [_], _ :: _ :: _, _, hr, _ => hr.2.elim
 | _ :: _ :: _, [_], _, hr, _ => hr.2.elim
 | b :: c :: l, v :: w :: r, a, hr, h => by
  obtain ⟨z, h1, h2, h3⟩ := xk3 (xs := c :: l) (vs := w :: r) (a := a) hr.2 h
  refine ⟨z, by simpa using h1, h2, ?_⟩
  have : (v :: w :: r).eraseIdx ((v :: w :: r).length - 1) = v :: (w :: r).eraseIdx ((w :: r).length - 1) := by simp
  rw [this]
  exact ⟨hr.1, h3⟩
noncomputable def popM (a : AV) : AM AV := match a with
 | .ref i => qb8 i fun xs => v0q xs (match xt8 xs with
  | some y => setM i (.list (xu5 xs)) (AM.ret y)
  | none => AM.fail)
 | _ => AM.fail
theorem zr3 : BiOk g prog cx n "list.pop" (one popM) := by
 refine qm4 fun a v => ?_
 intro A V st s hA hp I hb
 unfold popM at hb ⊢
 obtain ⟨i, rfl⟩ := x7q hb
 dsimp only at hb ⊢
 obtain ⟨xs, e1, e2⟩ := y1q hb
 rw [e2] at hb ⊢
 obtain ⟨e5, e6⟩ := k6q hb
 rw [e6] at hb ⊢
 induction e9 : xt8 xs with
 | none => rw [e9] at hb; exact q3q hb
 | some y =>
  rw [e9] at hb
  dsimp only at hb ⊢
  obtain ⟨e7, e8⟩ := qe1 hb
  rw [e8]
  obtain ⟨x, o, rfl, h1, h2, ⟨vs, n1, hr, rfl⟩⟩ := I.obj e1 hp
  have hsz := k4q e5 hr
  obtain ⟨z, q1, q2, q3⟩ := xk3 hr e9
  refine call_meets PySem.F.slot_list_pop ⟨_, h2, rfl⟩ PySem.F.entry_list_pop (PySem.F.args_list_pop_1 _) (MeetsSeq.list_pop_last x vs.toArray n1 z (by simpa using q1) (by simpa using hsz)) ⟨h2, ?_⟩
  have Z := qe2 I h1 h2 (f := fun xs => xs.eraseIdxIfInBounds (vs.toArray.size - 1)) (ys := xu5 xs) (ws := vs.eraseIdx (vs.length - 1)) (by simp) q3 e7 s.toks
  exact ⟨y, _, V, rfl, q2, Z.1, Z.2⟩
noncomputable def qw7 (a : AV) (st : St) : Bool := match a with
 | .ref i => match st.H.t.get i with
  | some (.dict _ _) => true
  | _ => false
 | _ => false
set_option tactic.hygienic true in
theorem xy0 {a : AV} {st : St} (h : qw7 a st = true) : ∃ i es ep, a = .ref i /\ st.H.t.get i = some (.dict es ep) := by
 cases a <;> try exact j7q h
 rename_i i
 unfold qw7 at h
 dsimp only at h
 generalize e : st.H.t.get i = o at h
 rcases o with _ | o <;> try exact j7q h
 cases o <;> try exact j7q h
 exact ⟨i, _, _, rfl, e⟩
theorem zg0 {name : Str} {id : String} (slot : Slot "dict" name id) (hty : typeOf (.builtin id) = pure (.type "method_descriptor")) : GmOk g prog cx name id qw7 := by
 intro V st s a u hr I hk A pl Q E h
 obtain ⟨i, es, ep, rfl, e⟩ := xy0 hk
 obtain ⟨x, o, rfl, h1, h2, ⟨fs, _, _, rfl⟩⟩ := I.obj e hr
 exact getMethod_builtin ⟨_, h2, rfl⟩ PySem.F.plainAttrs_dict slot hty (fun a e => by obtain rfl := Value.ref.inj e; exact ⟨_, h2, rfl⟩) h
noncomputable def zn2 (a b : AV) : AM AV := match a with
 | .ref i => match b with
  | .str k => fun st => match st.H.t.get i with
   | some (.dict es _) => match z4q es k with
    | some v => .ok v st
    | none => .ok .none st
   | _ => .bad
  | _ => AM.fail
 | _ => AM.fail
theorem xt5 {V : List Addr} {o : Obj} {es : List (List Nat × AV)} {ep : Nat} {d : Addr} {h : Heap} (ho : h.get? d = some o) (hr : j2q g V o (.dict es ep)) (k : List Nat) :
 ∃ f, h.MapOf (strKind prog g.w) d f /\ w5q g.ν V (z4q es k) (f ⟨k.toArray⟩) := by
 obtain ⟨fs, h1, h2, rfl⟩ := hr
 refine ⟨fun x => findBy (strKind prog g.w).is fs.toArray x, ⟨_, _, _, ho, ⟨rfl, rfl, rfl⟩, rfl, fun e he => h1.keysOf prog e (List.mem_toArray.mp he), fun _ => rfl⟩, ?_⟩
 dsimp only
 rw [findBy_of_findIdx?]
 have e : (fs.toArray.findIdx? fun e => (strKind prog g.w).is ⟨k.toArray⟩ e.key) = v3q es k := by rw [List.findIdx?_toArray]; exact qp5 prog g.w k h1
 rw [e]
 unfold z4q
 induction q : v3q es k with
 | none => exact trivial
 | some i =>
  obtain ⟨a, h3, h4⟩ := qg9 q
  dsimp only
  rw [h3]
  obtain ⟨x, h5, _, h6⟩ := h1.get h3
  have : fs.toArray[i]? = some x := by simpa using h5
  simp only [this, Option.map_some]
  exact h6
theorem zg3 (hs : ∃ o, g.U.get? sysModules = some o) : BiOk g prog cx n "dict.get" (two zn2) := by
 refine xs1 fun a b v w => ?_
 intro A V st s hA hp I hb
 obtain ⟨ha, hw⟩ := hp
 unfold zn2 at hb ⊢
 obtain ⟨i, rfl⟩ := x7q hb
 obtain ⟨k, rfl⟩ := qo2 hb
 dsimp only at hb ⊢
 obtain ⟨t, rfl⟩ := hw
 obtain ⟨es, ep, e2⟩ := qf6 hb
 . rw [e2] at hb
   try rw [e2]
   dsimp only at hb ⊢
   obtain ⟨x, o, rfl, h1, h2, hr⟩ := I.obj e2 ha
   obtain ⟨f, hm, hf⟩ := xt5 (prog := prog) h2 hr k
   have hT : s.TypeIs (.ref x) "dict" := hm.typeIs
   refine call_meetsIn PySem.F.slot_dict_get hT PySem.F.entry_dict_get (PySem.F.args_dict_get_2 _ _) (meets_dict_get (knd := strKind prog g.w) (k := ⟨k.toArray⟩) x (u3q prog g.w k t) (xj6 hs I h1)) ⟨f, hm, ?_⟩
   induction e3 : z4q es k with
   | none =>
    rw [e3] at hf
    induction e4 : f ⟨k.toArray⟩ with
    | some _ => rw [e4] at hf; exact hf.elim
    | none => exact ⟨_, st, V, rfl, rfl, I.tok _, Ext.refl _ _ _⟩
   | some y =>
    rw [e3] at hf
    induction e4 : f ⟨k.toArray⟩ with
    | none => rw [e4] at hf; exact hf.elim
    | some z => rw [e4] at hf; exact ⟨_, st, V, rfl, hf, I.tok _, Ext.refl _ _ _⟩
noncomputable def memM (flip : Bool) (a b : AV) : AM AV := match a with
 | .str k => match b with
  | .ref i => fun st => match st.H.t.get i with
   | some (.dict es _) => .ok (.bool (Bool.xor flip (z4q es k).isSome)) st
   | some (.set xs) => .ok (.bool (Bool.xor flip (anyEq xs k))) st
   | _ => .bad
  | _ => AM.fail
 | _ => AM.fail
where anyEq : List (List Nat) -> List Nat -> Bool
 | [], _ => false
 | x :: l, k => match qj5 x k with
  | true => true
  | false => anyEq l k
theorem xh0 : ∀ (xs : List (List Nat)) (k : List Nat), memM.anyEq xs k = xs.any fun x => decide ((⟨x.toArray⟩ : Str) = ⟨k.toArray⟩)
 | [], _ => rfl
 | x :: l, k => by
  rw [memM.anyEq, List.any_cons, qg3, xh0 l k]
  have : decide ((⟨x.toArray⟩ : Str) = ⟨k.toArray⟩) = decide (x = k) := decide_eq_decide.mpr ⟨fun h => by injection h with h; simpa using h, fun h => by rw [h]⟩
  rw [this]
  cases decide (x = k) <;> rfl
theorem xc9 {V : List Addr} {o : Obj} {xs : List (List Nat)} {d : Addr} {h : Heap} (ho : h.get? d = some o) (hr : j2q g V o (.set xs)) :
 ∃ m, h.SetOf (strKind prog g.w) d (fun k => xs.any fun x => decide ((⟨x.toArray⟩ : Str) = k)) m /\ m <= xs.length := by
 obtain ⟨h0, es, ep, t, h1, h2, h3, h4, h5, h6⟩ := hr
 exact ⟨_, ⟨o, es, ep, t, ho, h0, h1, h2, h3, h4, h5, rfl⟩, h6⟩
theorem qh5 (x : Str) (t : Tok) : (Value.str x t).scannable = true := rfl
theorem xy1 {p : Program} {w : World} {A : Around} {E : VP} {s : Shared} {T id : String} {B : Builtin} {c x : Value} {S : Around -> (Result -> Shared -> Prop) -> Shared -> Prop} {Q : VP} (hT : s.TypeIs c T) (slot : Slot T "__contains__" id)
 (entry : entryFor table id = some B) (args : argsOk id ⟨[c, x], []⟩) (m : MeetsIn p w (B ⟨[c, x], []⟩) S) (h : S A (wants (fun v s' => ∃ r, v = .bool r /\ Q (.bool r) s') E) s) : wpAny (model p w) A (compareOp .In x c) Q E s := by
 show wpAny _ _ (do return Value.bool (<- contains c x)) Q E s
 refine w0z (wpAny_contains_slot hT slot (w3z (call_meetsIn slot hT entry args m h) ?_ fun _ _ e => e))
 rintro v s' ⟨r, rfl, hq⟩
 exact wpAny_truthy_bool (w2z hq)
theorem xd5 {p : Program} {w : World} {A : Around} {E : VP} {s : Shared} {T id : String} {B : Builtin} {c x : Value} {S : Around -> (Result -> Shared -> Prop) -> Shared -> Prop} {Q : VP} (hT : s.TypeIs c T) (slot : Slot T "__contains__" id)
 (entry : entryFor table id = some B) (args : argsOk id ⟨[c, x], []⟩) (m : MeetsIn p w (B ⟨[c, x], []⟩) S) (h : S A (wants (fun v s' => ∃ r, v = .bool r /\ Q (.bool !r) s') E) s) : wpAny (model p w) A (compareOp .NotIn x c) Q E s := by
 show wpAny _ _ (do return Value.bool (!(<- contains c x))) Q E s
 refine w0z (wpAny_contains_slot hT slot (w3z (call_meetsIn slot hT entry args m h) ?_ fun _ _ e => e))
 rintro v s' ⟨r, rfl, hq⟩
 exact wpAny_truthy_bool (w2z hq)
set_option tactic.hygienic true in
theorem xk0 (hs : ∃ o, g.U.get? sysModules = some o) {op : CmpOp} {flip : Bool} (ho : (op = .In /\ flip = false) \/ (op = .NotIn /\ flip = true)) : OpOk g prog cx n (compareOp op) (memM flip) := by
 intro a b u v A V st s hA hp I hb
 obtain ⟨ha, hv⟩ := hp
 unfold memM at hb ⊢
 obtain ⟨k, rfl⟩ := qo2 hb
 obtain ⟨i, rfl⟩ := x7q hb
 dsimp only at hb ⊢
 obtain ⟨t, rfl⟩ := ha
 induction e2 : st.H.t.get i with
 | none => rw [e2] at hb; exact q3q hb
 | some ao =>
  rw [e2] at hb
  obtain ⟨x, o, rfl, h1, h2, hr⟩ := I.obj e2 hv
  induction ao <;> try exact q3q hb
  . rename_i es ep
    dsimp only at hb ⊢
    obtain ⟨f, hm, hf⟩ := xt5 (prog := prog) h2 hr k
    have hT : s.TypeIs (.ref x) "dict" := hm.typeIs
    have e5 : (f ⟨k.toArray⟩).isSome = (z4q es k).isSome := by
     cases e3 : z4q es k <;> cases e4 : f ⟨k.toArray⟩ <;> rw [e3, e4] at hf <;> first | rfl | exact hf.elim
    have M := meets_dict_contains (prog := prog) (w := g.w) (knd := strKind prog g.w) (k := ⟨k.toArray⟩) x (u3q prog g.w k t) (xj6 hs I h1)
    rcases ho with ⟨rfl, rfl⟩ | ⟨rfl, rfl⟩
    . refine xy1 hT PySem.F.slot_dict_contains PySem.F.entry_dict_contains (PySem.F.args_dict_contains_2 _ _) M ⟨f, hm, _, rfl, _, st, V, rfl, ?_, I.tok _, Ext.refl _ _ _⟩
      rw [e5, Bool.false_xor]; rfl
    . refine xd5 hT PySem.F.slot_dict_contains PySem.F.entry_dict_contains (PySem.F.args_dict_contains_2 _ _) M ⟨f, hm, _, rfl, _, st, V, rfl, ?_, I.tok _, Ext.refl _ _ _⟩
      rw [e5, Bool.true_xor]; rfl
  . rename_i xs
    dsimp only at hb ⊢
    obtain ⟨m, hm, _⟩ := xc9 (prog := prog) h2 hr
    rcases ho with ⟨rfl, rfl⟩ | ⟨rfl, rfl⟩
    . refine wpAny_inSet_of (k := ⟨k.toArray⟩) (u3q prog g.w k t) (qh5 _ _) hm ⟨_, st, V, rfl, ?_, I.tok _, Ext.refl _ _ _⟩
      rw [xh0, Bool.false_xor]; rfl
    . refine wpAny_notInSet_of (k := ⟨k.toArray⟩) (u3q prog g.w k t) (qh5 _ _) hm ⟨_, st, V, rfl, ?_, I.tok _, Ext.refl _ _ _⟩
      rw [xh0, Bool.true_xor]; rfl
theorem zx0 (hs : ∃ o, g.U.get? sysModules = some o) : OpOk g prog cx n (compareOp .In) (memM false) := xk0 hs (.inl ⟨rfl, rfl⟩)
theorem zk9 (hs : ∃ o, g.U.get? sysModules = some o) : OpOk g prog cx n (compareOp .NotIn) (memM true) := xk0 hs (.inr ⟨rfl, rfl⟩)
noncomputable def zf2 (a : AV) (st : St) : Bool := match a with
 | .ref i => match st.H.t.get i with
  | some (.set _) => true
  | _ => false
 | _ => false
set_option tactic.hygienic true in
theorem jk7 : GmOk g prog cx "add" "set.add" zf2 := by
 intro V st s a u hr I hk A pl Q E h
 cases a <;> try exact j7q hk
 rename_i i
 unfold zf2 at hk
 dsimp only at hk
 generalize e : st.H.t.get i = o at hk
 rcases o with _ | o <;> try exact j7q hk
 cases o <;> try exact j7q hk
 obtain ⟨x, o, rfl, h1, h2, hr2⟩ := I.obj e hr
 obtain ⟨m, hm, _⟩ := xc9 (prog := prog) h2 hr2
 exact getMethod_set_add hm h
noncomputable def jf4 (a b : AV) : AM AV := match a with
 | .ref i => match b with
  | .str k => fun st => match st.H.t.get i with
   | some (.set xs) => qw8 (Nat.ble xs.length 100) (setM i (.set (k :: xs)) (AM.ret .none)) st
   | _ => .bad
  | _ => AM.fail
 | _ => AM.fail
theorem jf3 : BiOk g prog cx n "set.add" (two jf4) := by
 refine xs1 fun a b v w => ?_
 intro A V st s hA hp I hb
 obtain ⟨ha, hw⟩ := hp
 unfold jf4 at hb ⊢
 obtain ⟨i, rfl⟩ := x7q hb
 obtain ⟨k, rfl⟩ := qo2 hb
 dsimp only at hb ⊢
 obtain ⟨t, rfl⟩ := hw
 induction e2 : st.H.t.get i with
 | none => rw [e2] at hb; exact q3q hb
 | some ao =>
  rw [e2] at hb
  obtain ⟨x, o, rfl, h1, h2, hr⟩ := I.obj e2 ha
  obtain ⟨xs, rfl⟩ : ∃ xs, ao = .set xs := by induction ao <;> first | exact ⟨_, rfl⟩ | exact q3q hb
  dsimp only at hb ⊢
  obtain ⟨e3, e4⟩ := qp9 hb
  rw [e4] at hb ⊢
  obtain ⟨e7, e8⟩ := qe1 hb
  rw [e8]
  have hl := w5z e3
  obtain ⟨m, hm, hml⟩ := xc9 (prog := prog) h2 hr
  have hsb : 200 < scanBound := by decide
  refine call_set_add (k := ⟨k.toArray⟩) (u3q prog g.w k t) (qh5 _ _) hm (by omega) fun h' hs' hS => ?_
  obtain ⟨o', es, ep, tb, q1, q2, q3, q4, q5, q6, q7, q8⟩ := hS
  have Z := I.upd (s.toks + 1) (i := i) (a := x) (o := o') (ao := .set (k :: xs)) (h' := h') h1 (fun b hb => hs'.2 b hb) q1 ?_ e7
  . exact ⟨.none, _, V, rfl, rfl, Z.1, Z.2⟩
  . refine ⟨q2, es, ep, tb, q3, q4, fun k' => ?_, q6, q7, ?_⟩
    . have := q5 k'
      refine Iff.trans ?_ this
      rw [List.any_cons, Bool.or_comm]
      have : decide ((⟨k.toArray⟩ : Str) = k') = decide (k' = ⟨k.toArray⟩) := decide_eq_decide.mpr ⟨Eq.symm, Eq.symm⟩
      rw [this]
    . rw [List.length_cons, q8]
      split <;> omega
noncomputable def putE (es : List (List Nat × AV)) (k : List Nat) (v : AV) : List (List Nat × AV) := match v3q es k with
 | some i => es.set i (k, v)
 | none => es ++ [(k, v)]
noncomputable def qz0 (es : List (List Nat × AV)) (k : List Nat) (ep : Nat) : Nat := match v3q es k with
 | some _ => ep
 | none => ep + 1
theorem qr7 : ∀ {es : List (List Nat × AV)} {k : List Nat}, v3q es k = none -> k ∉ es.map (·.1)
 | [], _, _, h => by cases h
 | e :: r, k, h, hm => by
  rw [v3q] at h
  induction q : qj5 e.1 k with
  | true => rw [q] at h; exact k2q h
  | false =>
   rw [q] at h
   dsimp only at h
   induction q2 : v3q r k with
   | some j => rw [q2] at h; exact k2q h
   | none =>
    rw [qg3] at q
    rcases List.mem_cons.mp hm with z | z
    . exact of_decide_eq_false q z.symm
    . exact qr7 q2 z
theorem k1q.set {V : List Addr} : ∀ {es : List (List Nat × AV)} {fs : List DictEntry} {i : Nat} {a : List Nat × AV} {v : AV} {w : Value}, k1q g V es fs -> es[i]? = some a -> repV g.ν V v w -> k1q g V (es.set i (a.1, v)) (fs.modify i fun e => { e with val := w })
 | [], [], _, _, _, _, _, e, _ => by simp at e
 | [], _ :: _, _, _, _, _, h, _, _ => h.elim
 | _ :: _, [], _, _, _, _, h, _, _ => h.elim
 | a :: l, e :: r, 0, b, v, w, h, q, hv => by
  simp at q; subst q
  show k1q g V ((a.1, v) :: l) ({ e with val := w } :: r)
  exact ⟨h.1, hv, h.2.2⟩
 | a :: l, e :: r, i + 1, b, v, w, h, q, hv => by
  show k1q g V (a :: l.set i (b.1, v)) (e :: r.modify i _)
  exact ⟨h.1, h.2.1, k1q.set h.2.2 (by simpa using q) hv⟩
theorem k1q.app {V : List Addr} {k : List Nat} {v : AV} {w : Value} {t : Tok} (hv : repV g.ν V v w) : ∀ {es : List (List Nat × AV)} {fs : List DictEntry}, k1q g V es fs -> k1q g V (es ++ [(k, v)]) (fs ++ [⟨hashStr g.w ⟨k.toArray⟩, .str ⟨k.toArray⟩ t, w⟩])
 | [], [], _ => ⟨⟨⟨t, rfl⟩, rfl⟩, hv, trivial⟩
 | [], _ :: _, h => h.elim
 | _ :: _, [], h => h.elim
 | _ :: _, _ :: _, h => ⟨h.1, h.2.1, k1q.app hv h.2.2⟩
theorem k1q.del {V : List Addr} : ∀ {es : List (List Nat × AV)} {fs : List DictEntry} (i : Nat), k1q g V es fs -> k1q g V (es.eraseIdx i) (fs.eraseIdx i)
 | [], [], _, h => by simpa using h
 | [], _ :: _, _, h => h.elim
 | _ :: _, [], _, h => h.elim
 | _ :: _, _ :: _, 0, h => h.2.2
 | _ :: _, _ :: _, i + 1, h => ⟨h.1, h.2.1, k1q.del i h.2.2⟩
theorem xc8 {α : Type} : ∀ {l : List α} {i : Nat} {a : α}, l[i]? = some a -> l.set i a = l
 | [], _, _, h => by simp at h
 | x :: l, 0, a, h => by simp at h; rw [h]; rfl
 | x :: l, i + 1, a, h => by rw [List.set_cons_succ, xc8 (by simpa using h)]
theorem xb8 {A : Around} {V : List Addr} {st : St} {s : Shared} (I : Inv g cx V st s) {i : Nat} {d : Addr} {es : List (List Nat × AV)} {ep : Nat} {o : Obj} {k : List Nat} {t : Tok} {v : AV} {w : Value} {Q : Unit -> Shared -> Prop} {E : VP}
 (h1 : V[i]? = some d) (ho : s.heap.get? d = some o) (hr : j2q g V o (.dict es ep)) (hl : Nat.ble es.length 100000 = true) (hi : Nat.blt i z5q = true) (hv : repV g.ν V v w)
 (h : ∀ s', Inv g cx V { st with H := st.H.set i (.dict (putE es k v) (qz0 es k ep)) } s' -> Ext cx V s.heap V s'.heap -> Q () s') : wpAny (model prog g.w) A (dictSet d (.str ⟨k.toArray⟩ t) w) Q E s := by
 obtain ⟨fs, hf, hnd, rfl⟩ := hr
 have hkeys : KeysOf (strKind prog g.w) fs.toArray := fun e he => hf.keysOf prog e (List.mem_toArray.mp he)
 have hkey := u3q prog g.w k t
 have hix : (fs.toArray.findIdx? fun e => (strKind prog g.w).is ⟨k.toArray⟩ e.key) = v3q es k := by rw [List.findIdx?_toArray]; exact qp5 prog g.w k hf
 have hes : fs.toArray.size <= sizeLine := by
  rw [List.size_toArray, <- hf.length]
  have := w5z hl
  have h2 : (100000 : Nat) <= sizeLine := by decide
  exact Nat.le_trans (by assumption) (by decide)
 unfold dictSet
 try with_reducible refine w8z ?_
 refine w0z ((strKind prog g.w).pyHash hkey ?_)
 unfold dictSetHashed
 try with_reducible refine w8z ?_
 refine w0z (wpAny_dictFind_of (s := { s with toks := s.toks + 1 }) hkey ho rfl hkeys ?_)
 rw [hix]
 unfold putE qz0 at h
 induction hq : v3q es k with
 | some j =>
  rw [hq] at h
  obtain ⟨a, ha, hak⟩ := qg9 hq
  have Z := I.upd (s.toks + 1) (i := i) (a := d) (h' := s.heap.update d (Obj.mapDict fun es => es.modify j fun e => { e with val := w })) (ao := .dict (es.set j (k, v)) ep) (o := Obj.mapDict (fun es => es.modify j fun e => { e with val := w }) ⟨.type "dict", none, .dict fs.toArray ep, #[]⟩) h1
   (fun b hb => Heap.get?_update_other s.heap _ (Ne.symm hb)) (Heap.get?_update_self _ ho rfl) ?_ hi
  . exact w0z (wpAny_rule (w0z (wpAny_updateDict (s := { s with toks := s.toks + 1 }) ho rfl (wpAny_point (h _ Z.1 Z.2)))))
  . refine ⟨fs.modify j fun e => { e with val := w }, ?_, ?_, ?_⟩
    . have := hf.set ha hv; rw [hak] at this; exact this
    . have : (es.set j (k, v)).map (·.1) = es.map (·.1) := by
       rw [List.map_set]
       refine xc8 ?_
       rw [List.getElem?_map, ha, Option.map_some, hak]
      rw [this]; exact hnd
    . simp [Obj.mapDict]
 | none =>
  rw [hq] at h
  have Z := I.upd (s.toks + 1) (i := i) (a := d) (h' := s.heap.update d (Obj.mapDictKeys fun es => es.push ⟨hashStr g.w ⟨k.toArray⟩, .str ⟨k.toArray⟩ t, w⟩)) (ao := .dict (es ++ [(k, v)]) (ep + 1)) (o := Obj.mapDictKeys (fun es => es.push ⟨hashStr g.w ⟨k.toArray⟩, .str ⟨k.toArray⟩ t, w⟩) ⟨.type "dict", none, .dict fs.toArray ep, #[]⟩) h1
   (fun b hb => Heap.get?_update_other s.heap _ (Ne.symm hb)) (Heap.get?_update_self _ ho rfl) ?_ hi
  . exact w0z (wpAny_rule (wpAny_updateDictKeys (hz := hes) (s := { s with toks := s.toks + 1 }) ho rfl (h _ Z.1 Z.2)))
  . refine ⟨_, hf.app (k := k) (t := t) hv, ?_, ?_⟩
    . rw [List.map_append, List.nodup_append]
      refine ⟨hnd, by simp, fun a ha b hb z => qr7 hq ?_⟩
      simp at hb
      rw [<- hb, <- z]; exact ha
    . simp [Obj.mapDictKeys]
noncomputable def qz8 (a b v : AV) : AM Unit := match a with
 | .ref i => match b with
  | .str k => fun st => match st.H.t.get i with
   | some (.dict es ep) => match Nat.ble es.length 100000 with
    | true => setM i (.dict (putE es k v) (qz0 es k ep)) (AM.ret ()) st
    | false => .bad
   | _ => .bad
  | .int j => match j.lit? with
   | some (.ofNat k) => fun st => match st.H.t.get i with
    | some (.list xs) => match Nat.blt k xs.length && Nat.ble xs.length 100000 with
     | true => setM i (.list (xs.set k v)) (AM.ret ()) st
     | false => .bad
    | _ => .bad
   | _ => AM.fail
  | _ => AM.fail
 | _ => AM.fail
theorem reps.set {ν : Vl} {V : List Addr} : ∀ {l : List AV} {vs : List Value} (k : Nat) {v : AV} {w : Value}, reps ν V l vs -> repV ν V v w -> reps ν V (l.set k v) (vs.set k w)
 | [], [], _, _, _, _, _ => trivial
 | [], _ :: _, _, _, _, h, _ => h.elim
 | _ :: _, [], _, _, _, h, _ => h.elim
 | _ :: _, _ :: _, 0, _, _, h, hv => ⟨hv, h.2⟩
 | _ :: _, _ :: _, k + 1, _, _, h, hv => ⟨h.1, reps.set k h.2 hv⟩
theorem xd1 {p : Program} {w : World} {A : Around} {E : VP} {s : Shared} {l : Addr} {o : Obj} {items : Array Value} {n1 : Nat} {k : Int} {t : Tok} {v : Value} {Q : Unit -> Shared -> Prop} (ho : s.heap.get? l = some o) (hc : o.cls = .type "list") (hd : o.data = .seq items n1)
 (h0 : 0 <= k) (hfit : k < 2 ^ 63) (hn : k < items.size) (hQ : Q () { s with heap := s.heap.update l (Obj.mapSeq (·.setIfInBounds k.toNat v)) }) :
 wpAny (model p w) A (setItem (.ref l) (.int k t) v) Q E s := by
 have hl : s.heap.IsList l items := ⟨o, ho, hc, n1, hd⟩
 unfold setItem
 try with_reducible refine w8z ?_
 first | refine w0z (w2z ?_) | skip
 refine w0z (wpAny_sequenceKey hl.typeIs (by decide) ?_)
 refine w0z (wpAny_callSpecial?_slot (name := Str.ofString "__setitem__") hl.typeIs slot_list_setitem
  (wpAny_call_entry slot_list_setitem hl.typeIs entry_list_setitem ?_ (args_list_setitem _ _ _)))
 show wpAny _ _ (Builtin.List.listSubscript? (.int k t) >>= _) _ _ s
 refine w0z (wpAny_listSubscript_int (fitsIndex_of h0 hfit) ?_)
 clear hfit
 obtain ⟨j, rfl⟩ := Int.eq_ofNat_of_zero_le h0
 have hj : j < items.size := by exact (Int.toNat_lt (by assumption)).mpr (by assumption)
 have hx' : items[j]? = some items[j] := Array.getElem?_eq_getElem hj
 show wpAny _ _ ((seqItemAt l j >>= fun r => pure (r.map (j, ·))) >>= _) _ _ s
 refine w0z (w0z (wpAny_seqItemAt ho hd (w2z ?_)))
 rw [hx']
 refine w0z (wpAny_setSeqItemAt ho hd ?_)
 exact w2z ⟨.none, rfl, w2z hQ⟩
set_option tactic.hygienic true in
theorem xa6 (a b v : AV) (u w x : Value) : RefX g prog cx n (fun V => (repV g.ν V a u /\ repV g.ν V b w) /\ repV g.ν V v x) qv0 (setItem u w x) (qz8 a b v) := by
 intro A V st s hA hp I hb
 obtain ⟨⟨ha, hw⟩, hx⟩ := hp
 unfold qz8 at hb ⊢
 obtain ⟨i, rfl⟩ := x7q hb
 induction b <;> try exact q3q hb
 . rename_i j
   dsimp only at hb ⊢
   obtain ⟨t, rfl⟩ := hw
   induction e0 : j.lit? with
   | none => rw [e0] at hb; exact q3q hb
   | some c =>
    induction c with
    | negSucc m => rw [e0] at hb; exact q3q hb
    | ofNat k =>
     rw [e0] at hb
     rw [SI.lit_val e0]
     dsimp only at hb ⊢
     obtain ⟨xs, e2⟩ := xf3 hb
     . rw [e2] at hb
       try rw [e2]
       dsimp only at hb ⊢
       induction e3 : Nat.blt k xs.length && Nat.ble xs.length 100000 with
       | false => rw [e3] at hb; exact q3q hb
       | true =>
        rw [e3] at hb
        dsimp only at hb ⊢
        rw [Bool.and_eq_true] at e3
        have hk : k < xs.length := w5z e3.1
        have hl := w5z e3.2
        obtain ⟨e7, e8⟩ := qe1 hb
        rw [e8]
        obtain ⟨y, o, rfl, h1, h2, ⟨vs, n1, hr, rfl⟩⟩ := I.obj e2 ha
        have hlen := hr.length
        have hL : s.heap.IsList y vs.toArray := ⟨_, h2, rfl, n1, rfl⟩
        have Z := qe2 I h1 h2 (f := (·.setIfInBounds k x)) (ys := xs.set k v) (ws := vs.set k x) (by simp) (hr.set k hx) e7 s.toks
        exact xd1 h2 rfl rfl (Int.natCast_nonneg k) (by show (k : Int) < _; omega) (by show (k : Int) < _; simp; exact Nat.lt_of_lt_of_eq (by assumption) (by assumption)) ⟨_, _, V, rfl, trivial, Z.1, Z.2⟩
 . rename_i k
   dsimp only at hb ⊢
   obtain ⟨t, rfl⟩ := hw
   obtain ⟨es, ep, e2⟩ := qf6 hb
   . rw [e2] at hb
     try rw [e2]
     dsimp only at hb ⊢
     induction e3 : Nat.ble es.length 100000 with
     | false => rw [e3] at hb; exact q3q hb
     | true =>
      rw [e3] at hb
      dsimp only at hb ⊢
      obtain ⟨e7, e8⟩ := qe1 hb
      rw [e8]
      obtain ⟨y, o, rfl, h1, h2, hr⟩ := I.obj e2 ha
      have hT : s.TypeIs (.ref y) "dict" := by obtain ⟨fs, _, _, rfl⟩ := hr; exact ⟨_, h2, rfl⟩
      unfold setItem
      unfold RG
      try with_reducible refine w8z ?_
      refine w0z (wpAny_sequenceKey hT (by decide) ?_)
      refine w0z (wpAny_callSpecial?_slot (name := Str.ofString "__setitem__") hT slot_dict_setitem
       (wpAny_call_entry slot_dict_setitem hT entry_dict_setitem ?_ (args_dict_setitem _ _ _)))
      show wpAny _ _ (Builtin.Dict.notOrdered "__setitem__" ⟨[.ref y, .str ⟨k.toArray⟩ t, x], []⟩ >>= _) _ _ s
      refine w0z (wpAny_notOrdered_dict hT ?_)
      show wpAny _ _ (dictSet y (.str ⟨k.toArray⟩ t) x >>= _) _ _ s
      exact w0z (xb8 I h1 h2 hr e3 e7 hx fun s' I' X' => w2z ⟨.none, rfl, w2z ⟨_, _, V, rfl, trivial, I', X'⟩⟩)
theorem xm7 {o i value : Expr} {p pos : Pos} {fv fo fi : AM AV} (hs : swapsWith value (some (.Subscript o i p)) pos.line cx.env = pure false) (hv : RefE g prog cx n value fv) (ho : RefE g prog cx n o fo) (hi : RefE g prog cx n i fi) :
 RefS g prog cx n (.Assign [.Subscript o i p] value pos) (fv.bind fun v => fo.bind fun a => fi.bind fun b => (qz8 a b v).bind fun _ => AM.ret .next) := by
 refine RefW.toX (fun A Q E s h => wpAny_Assign_Subscript h hs) ?_
 refine RefW.nest Mono.true hv fun v x => ?_
 refine RefW.nest (Mono.and Mono.true (z6q _ _ _)) (ho.weak fun _ _ => trivial) fun a u => ?_
 refine RefW.nest (Mono.and (Mono.and Mono.true (z6q _ _ _)) (z6q _ _ _)) (hi.weak fun _ _ => trivial) fun b w => ?_
 refine RefW.nest (K := fun _ _ (Q : Flow -> Shared -> Prop) _ s => Q .next s) (Mono.and (Mono.and (Mono.and Mono.true (z6q _ _ _)) (z6q _ _ _)) (z6q _ _ _)) ((xa6 a b v u w x).weak fun _ h => ⟨⟨h.1.2, h.2⟩, h.1.1.2⟩) fun _ _ => ?_
 exact RefW.done fun _ _ => rfl
noncomputable def zo5 (a b : AV) : AM Unit := match a with
 | .ref i => match b with
  | .str k => fun st => match st.H.t.get i with
   | some (.dict es ep) => match Nat.ble es.length 100000 with
    | true => match v3q es k with
     | some j => setM i (.dict (es.eraseIdx j) (ep + 1)) (AM.ret ()) st
     | none => .bad
    | false => .bad
   | _ => .bad
  | _ => AM.fail
 | _ => AM.fail
theorem xz2 (a b : AV) (u w : Value) : RefX g prog cx n (fun V => repV g.ν V a u /\ repV g.ν V b w) qv0 (delItem u w) (zo5 a b) := by
 intro A V st s hA hp I hb
 obtain ⟨ha, hw⟩ := hp
 unfold zo5 at hb ⊢
 obtain ⟨i, rfl⟩ := x7q hb
 obtain ⟨k, rfl⟩ := qo2 hb
 dsimp only at hb ⊢
 obtain ⟨t, rfl⟩ := hw
 obtain ⟨es, ep, e2⟩ := qf6 hb
 . rw [e2] at hb
   try rw [e2]
   dsimp only at hb ⊢
   induction e3 : Nat.ble es.length 100000 with
   | false => rw [e3] at hb; exact q3q hb
   | true =>
    rw [e3] at hb
    dsimp only at hb ⊢
    induction hq : v3q es k with
    | none => rw [hq] at hb; exact q3q hb
    | some j =>
     rw [hq] at hb
     dsimp only at hb ⊢
     obtain ⟨e7, e8⟩ := qe1 hb
     rw [e8]
     obtain ⟨y, o, rfl, h1, h2, fs, hf, hnd, rfl⟩ := I.obj e2 ha
     have hT : s.TypeIs (.ref y) "dict" := ⟨_, h2, rfl⟩
     have hkeys : KeysOf (strKind prog g.w) fs.toArray := fun e he => hf.keysOf prog e (List.mem_toArray.mp he)
     have hkey := u3q prog g.w k t
     have hix : (fs.toArray.findIdx? fun e => (strKind prog g.w).is ⟨k.toArray⟩ e.key) = some j := by rw [List.findIdx?_toArray, qp5 prog g.w k hf, hq]
     have hes : fs.toArray.size <= sizeLine := by
      rw [List.size_toArray, <- hf.length]
      have := w5z e3
      have h2 : (100000 : Nat) <= sizeLine := by decide
      exact Nat.le_trans (by assumption) (by decide)
     obtain ⟨a, ha', hak⟩ := qg9 hq
     obtain ⟨e, he, _, _⟩ := hf.get ha'
     have he' : fs.toArray[j]? = some e := by simpa using he
     have Z := I.upd (s.toks + 1) (i := i) (a := y) (h' := s.heap.update y (Obj.mapDictKeys fun es => es.eraseIdxIfInBounds j)) (ao := .dict (es.eraseIdx j) (ep + 1)) (o := Obj.mapDictKeys (fun es => es.eraseIdxIfInBounds j) ⟨.type "dict", none, .dict fs.toArray ep, #[]⟩) h1
      (fun b hb => Heap.get?_update_other s.heap _ (Ne.symm hb)) (Heap.get?_update_self _ h2 rfl) ?_ e7
     . unfold delItem
       unfold RG
       try with_reducible refine w8z ?_
       refine w0z (wpAny_sequenceKey hT (by decide) ?_)
       refine w0z (wpAny_callSpecial?_slot (name := Str.ofString "__delitem__") hT PySem.F.slot_dict_delitem
        (wpAny_call_entry PySem.F.slot_dict_delitem hT PySem.F.entry_dict_delitem ?_ (PySem.F.args_dict_delitem_2 _ _)))
       unfold Builtin.«dict.__delitem__»
       refine w0z ?_
       unfold Builtin.Dict.dictSlotArgs
       refine w0z (wpAny_notOrdered_dict hT ?_)
       show wpAny _ _ (pure (Value.ref y, Value.str ⟨k.toArray⟩ t)) _ _ s
       refine w2z ?_
       show wpAny _ _ (Builtin.Dict.takeOut y (.str ⟨k.toArray⟩ t) >>= _) _ _ s
       refine w0z ?_
       unfold Builtin.Dict.takeOut
       try with_reducible refine w8z ?_
       refine w0z ((strKind prog g.w).pyHash hkey ?_)
       refine w0z (wpAny_dictFind_of (s := { s with toks := s.toks + 1 }) hkey h2 rfl hkeys ?_)
       rw [hix]
       refine w0z (wpAny_dictEntries (s := { s with toks := s.toks + 1 }) h2 rfl ?_)
       rw [he']
       refine w0z (wpAny_updateDictKeys (hz := hes) (s := { s with toks := s.toks + 1 }) h2 rfl (w2z ?_))
       exact w0z (wpAny_letGo (w2z ⟨.none, rfl, w2z ⟨_, _, V, rfl, trivial, Z.1, Z.2⟩⟩))
     . refine ⟨fs.eraseIdx j, hf.del j, ?_, ?_⟩
       . exact List.Nodup.sublist ((List.eraseIdx_sublist es j).map _) hnd
       . simp [Obj.mapDictKeys]
theorem zq4 {o i : Expr} {p pos : Pos} {fo fi : AM AV} (ho : RefE g prog cx n o fo) (hi : RefE g prog cx n i fi) :
 RefS g prog cx n (.Delete [.Subscript o i p] pos) (fo.bind fun a => fi.bind fun b => (zo5 a b).bind fun _ => AM.ret .next) := by
 refine RefW.toX (T := fun A Q E s => wpAny (model prog g.w) A (eval o cx.env) (fun ov s₁ => wpAny (model prog g.w) A (eval i cx.env) (fun iv sB => wpAny (model prog g.w) A (delItem ov iv) (fun _ sC => Q .next sC) E sB) E s₁) E s)
  (fun A Q E s h => wpAny_Delete (wpAny_deleteEach_cons (wpAny_delete_Subscript (w3z h (fun _ _ h => w3z h (fun _ _ h => w3z h (fun _ _ h => wpAny_deleteEach_nil h) fun _ _ e => e) fun _ _ e => e) fun _ _ e => e)))) ?_
 refine RefW.nest Mono.true ho fun a u => ?_
 refine RefW.nest (Mono.and Mono.true (z6q _ _ _)) (hi.weak fun _ _ => trivial) fun b w => ?_
 refine RefW.nest (K := fun _ _ (Q : Flow -> Shared -> Prop) _ s => Q .next s) (Mono.and (Mono.and Mono.true (z6q _ _ _)) (z6q _ _ _)) ((xz2 a b u w).weak fun _ h => ⟨h.1.2, h.2⟩) fun _ _ => ?_
 exact RefW.done fun _ _ => rfl
inductive Src where
 | list (i : Nat)
 | tuple (i : Nat)
 | range (m : Nat)
 | chars (x : List Nat)
 | keys (d m ep : Nat)
 | vals (d m ep : Nat)
 | items (d m ep : Nat)
 | enum (i : Nat)
noncomputable def qk8 (V : List Addr) (src : Src) (k : Nat) (a a2 : Addr) (h : Heap) : Prop := match src with
 | .list i => ∃ l, V[i]? = some l /\ h.IsListIter a l k
 | .tuple i => ∃ l, V[i]? = some l /\ h.IsTupleIter a l k
 | .range m => ∃ left : Nat, k + left = m /\ IsRangeIter h a (k : Int) (left : Int) 1
 | .chars x => ∃ t, h.IsStrIter a (strIterType ⟨x.toArray⟩) ⟨x.toArray⟩ t k
 | .keys d m ep => ∃ l, V[d]? = some l /\ h.IsKeyIter a l k m ep
 | .vals d m ep => ∃ l, V[d]? = some l /\ h.IsValIter a l k m ep
 | .items d m ep => ∃ l ok ov, V[d]? = some l /\ IsItemIter h a l k m ep ok ov
 | .enum i => ∃ l old, V[i]? = some l /\ a ≠ a2 /\ IsEnum h a a2 (k : Int) old /\ h.IsListIter a2 l k
theorem qk8.keep {V ρ' : List Addr} {src : Src} {k : Nat} {a a2 : Addr} {h h' : Heap} (x : qk8 V src k a a2 h) (hp : Pre V ρ') (h1 : ∀ o, h.get? a = some o -> h'.get? a = some o) (h2 : ∀ o, h.get? a2 = some o -> h'.get? a2 = some o) : qk8 ρ' src k a a2 h' := by
 induction src with
 | list i => obtain ⟨l, q1, o, q2, q3⟩ := x; exact ⟨l, hp.get q1, o, h1 _ q2, q3⟩
 | tuple i => obtain ⟨l, q1, o, q2, q3⟩ := x; exact ⟨l, hp.get q1, o, h1 _ q2, q3⟩
 | range m => obtain ⟨l, q1, q2⟩ := x; exact ⟨l, q1, h1 _ q2⟩
 | chars m => obtain ⟨t, o, q1, q2⟩ := x; exact ⟨t, o, h1 _ q1, q2⟩
 | keys d m ep => obtain ⟨l, q1, o, q2, q3⟩ := x; exact ⟨l, hp.get q1, o, h1 _ q2, q3⟩
 | vals d m ep => obtain ⟨l, q1, o, q2, q3⟩ := x; exact ⟨l, hp.get q1, o, h1 _ q2, q3⟩
 | items d m ep => obtain ⟨l, ok, ov, q1, q2⟩ := x; exact ⟨l, ok, ov, hp.get q1, h1 _ q2⟩
 | enum i => obtain ⟨l, old, q1, q2, q3, o, q4, q5⟩ := x; exact ⟨l, old, hp.get q1, q2, h1 _ q3, o, h2 _ q4, q5⟩
theorem Inv.side {V : List Addr} {st : St} {s : Shared} (I : Inv g cx V st s) {own : Addr -> Prop} {h' : Heap} (tk : Nat) (ho : ∀ b, own b -> g.U.get? b = none /\ b ∉ V /\ b ≠ cx.env.locals /\ ¬ Fs cx.fr b)
 (hk : ∀ b o, s.heap.get? b = some o -> ¬ own b -> h'.get? b = some o) : Inv g cx V st { s with heap := h', toks := tk } := by
 have hr : ∀ a ∈ V, ¬ own a := fun a ha z => (ho a z).2.1 ha
 refine ⟨fun b o e => hk b o (I.base b o e) fun z => ?_, I.own, I.nodup, fun a ha => ?_, fun i ao e => ?_, I.size, ?_, I.lnew, I.cells, fun e he => ?_, I.gens, I.drawn, I.os, I.tabs⟩
 . rw [(ho b z).1] at e; exact q6q e
 . obtain ⟨o, e⟩ := I.live a ha; exact ⟨o, hk a o e (hr a ha)⟩
 . obtain ⟨a, o, h1, h2, h3⟩ := I.heap i ao e
   exact ⟨a, o, h1, hk a o h2 (hr a (w7z h1)), h3⟩
 . obtain ⟨m, ⟨o, es, ep, h1, r⟩, h2⟩ := I.loc
   exact ⟨m, ⟨o, es, ep, hk _ o h1 fun z => (ho _ z).2.2.1 rfl, r⟩, h2⟩
 . obtain ⟨h0, b, o, es, ep, h1, h2, h3, h4⟩ := I.frs e he
   exact ⟨h0, b, o, es, ep, h1, hk b o h2 fun z => (ho b z).2.2.2 ⟨e, he, h1⟩, h3, h4⟩
theorem Inv.adopt {V : List Addr} {st : St} {s : Shared} (I : Inv g cx V st s) {a : Addr} {o : Obj} {ao : AO} (ho : s.heap.get? a = some o) (hn : g.U.get? a = none /\ a ∉ V /\ a ≠ cx.env.locals /\ ¬ Fs cx.fr a) (hr : j2q g (V ++ [a]) o ao) (hl : Nat.blt st.H.n z5q = true) :
 Inv g cx (V ++ [a]) { st with H := st.H.push ao } s := by
 have hp : Pre V (V ++ [a]) := ⟨[a], rfl⟩
 refine ⟨I.base, fun b hb => ?_, ?_, fun b hb => ?_, fun i ao' e => ?_, ?_, ?_, I.lnew, fun i x hx => ?_, I.frs, I.gens, I.drawn, I.os, I.tabs.trans hp⟩
 . rcases List.mem_append.mp hb with q | q
   . exact I.own b q
   . rw [List.mem_singleton.mp q]; exact ⟨hn.1, hn.2.2⟩
 . exact List.nodup_append.mpr ⟨I.nodup, by simp, fun x hx y hy => by rw [List.mem_singleton.mp hy]; exact fun z => hn.2.1 (z ▸ hx)⟩
 . rcases List.mem_append.mp hb with q | q
   . exact I.live b q
   . rw [List.mem_singleton.mp q]; exact ⟨o, ho⟩
 . have e' : (Tr.put ao 40 st.H.t st.H.n).get i = some ao' := e
   rw [Tr.get_put _ _ _ _ _ (qa6 hl)] at e'
   by_cases q : i = st.H.n
   . rw [if_pos q] at e'
     cases e'
     exact ⟨a, o, by rw [q, I.size]; simp, ho, hr⟩
   . rw [if_neg q] at e'
     exact I.heap_keep hp (fun b _ o e => e) e'
 . show st.H.n + 1 = (V ++ [a]).length
   rw [I.size]; simp
 . exact I.loc_keep hp fun o e => e
 . obtain ⟨k, c, h1, h2, h3⟩ := I.cells i x hx
   exact ⟨k, c, h1, h2, hp.get h3⟩
noncomputable def xb9 (d m ep : Nat) (k : Nat) (f : List Nat × AV -> AM (Option AV)) : AM (Option AV) := fun st => match st.H.t.get d with
 | some (.dict es ep') => match Nat.beq es.length m && Nat.beq ep ep' with
  | true => match es[k]? with
   | some e => f e st
   | none => .ok none st
  | false => .bad
 | _ => .bad
noncomputable def xp8 (xs : List AV) : AM (Option AV) := fun st => match Nat.blt st.H.n z5q with
 | true => .ok (some (.ref st.H.n)) { st with H := st.H.push (.tuple xs) }
 | false => .bad
noncomputable def qj3 (tup : Bool) (src : Src) (k : Nat) : AM (Option AV) := match src with
 | .list i => fun st => match st.H.t.get i with
  | some (.list xs) => .ok xs[k]? st
  | _ => .bad
 | .tuple i => fun st => match st.H.t.get i with
  | some (.tuple xs) => .ok xs[k]? st
  | _ => .bad
 | .range m => match Nat.blt k m with
  | true => AM.ret (some (litI (.ofNat k)))
  | false => AM.ret none
 | .chars x => match x[k]? with
  | some c => AM.ret (some (.str [c]))
  | none => AM.ret none
 | .keys d m ep => xb9 d m ep k fun e => AM.ret (some (.str e.1))
 | .vals d m ep => xb9 d m ep k fun e => AM.ret (some e.2)
 | .items d m ep => match tup with
  | true => xb9 d m ep k fun e => xp8 [.str e.1, e.2]
  | false => AM.fail
 | .enum i => match tup with
  | true => fun st => match st.H.t.get i with
   | some (.list xs) => match xs[k]? with
    | some x => xp8 [litI (.ofNat k), x] st
    | none => .ok none st
   | _ => .bad
  | false => AM.fail
structure Turned (g : Gl) (cx : Cx) (src : Src) (k : Nat) (a a2 : Addr) (V : List Addr) (s : Shared) (v : Value) (o : Out (Option AV)) (s' : Shared) : Prop where
 ex : ∃ b st' ρ', o = .ok (some b) st' /\ repV g.ν ρ' b v /\ Inv g cx ρ' st' s' /\ qk8 ρ' src (k + 1) a a2 s'.heap /\ Pre V ρ' /\ (∀ x ∈ ρ', x ∉ V -> s.heap.get? x = none) /\ ∀ b o, s.heap.get? b = some o -> b ≠ a -> b ≠ a2 -> s'.heap.get? b = some o
structure Ended (a a2 : Addr) (s : Shared) (s' : Shared) : Prop where
 ex : ∃ h' tk, s' = { s with heap := h', toks := tk } /\ ∀ b o, s.heap.get? b = some o -> b ≠ a -> b ≠ a2 -> h'.get? b = some o
theorem xq2 {A : Around} {s : Shared} {target : Expr} {a : Addr} {v : Value} {o : Obj} {T : String} {Q : Unit -> Shared -> Prop} {E : VP} (ho : s.heap.get? a = some o) (hc : o.cls = .type T)
 (hT : ["enumerate", "zip", "dict_itemiterator", "dict_reverseitemiterator", "odict_iterator", "itertools.zip_longest", "itertools.pairwise"].contains T = false) (h : Q () s) : wpAny (model prog g.w) A (letOwnedTupleGo target (.ref a) v) Q E s := by
 have key : wpAny (model prog g.w) A (do
  let (.ref r, .ref a) := (Value.ref a, v) | return
  let o <- load r
  match o.cls, o.data with
  | .type n, .fields vs =>
   if ["enumerate", "zip", "dict_itemiterator", "dict_reverseitemiterator", "odict_iterator", "itertools.zip_longest", "itertools.pairwise"].contains n && vs[0]? == some (rawInt a) then
    rule "for.unpacks-the-owned-tuple"
    updateField r 0 .none
  | _, _ => pure ()) Q E s := by
  induction v <;> try exact w2z h
  refine w0z (wpAny_load ho ?_)
  rw [hc]
  cases o.data <;> try exact w2z h
  dsimp only
  rw [hT]
  exact w2z h
 unfold letOwnedTupleGo
 cases target <;> first | exact w2z h | exact key
section
variable {A : Around} {V : List Addr} {st : St} {s : Shared} {src : Src} {k : Nat} {a a2 : Addr} {target : Expr} {tup : Bool}
noncomputable def ownP (a a2 : Addr) (b : Addr) : Prop := b = a \/ b = a2
theorem qv3 (I : Inv g cx V st s) (hown : ∀ b, ownP a a2 b -> g.U.get? b = none /\ b ∉ V /\ b ≠ cx.env.locals /\ ¬ Fs cx.fr b) {h' : Heap} (tk : Nat) (hk : ∀ b o, s.heap.get? b = some o -> b ≠ a -> b ≠ a2 -> h'.get? b = some o) : Inv g cx V st { s with heap := h', toks := tk } :=
 I.side tk hown fun b o e hb => hk b o e (fun z => hb (.inl z)) fun z => hb (.inr z)
theorem qa1 (I : Inv g cx V st s) (hown : ∀ b, ownP a a2 b -> g.U.get? b = none /\ b ∉ V /\ b ≠ cx.env.locals /\ ¬ Fs cx.fr b) {h' : Heap} {tk : Nat} {v : Value} {b : AV} {o : Obj} {T : String} {E : VP} {f : Out (Option AV)}
 (hf : f = .ok (some b) st) (hv : repV g.ν V b v) (hs : qk8 V src (k + 1) a a2 h') (hk : ∀ b o, s.heap.get? b = some o -> b ≠ a -> b ≠ a2 -> h'.get? b = some o)
 (ho : h'.get? a = some o) (hc : o.cls = .type T) (hT : ["enumerate", "zip", "dict_itemiterator", "dict_reverseitemiterator", "odict_iterator", "itertools.zip_longest", "itertools.pairwise"].contains T = false) :
 wpAny (model prog g.w) A (letOwnedTupleGo target (.ref a) v) (fun _ sB => Turned g cx src k a a2 V s v f sB) E { s with heap := h', toks := tk } :=
 xq2 (s := { s with heap := h', toks := tk }) ho hc hT ⟨b, st, V, hf, hv, qv3 I hown tk hk, hs, Pre.refl V, fun x h1 h2 => absurd h1 h2, hk⟩
theorem qx2 {d m ep : Nat} {f : List Nat × AV -> AM (Option AV)} (h : xb9 d m ep k f st ≠ .bad) : ∃ es, st.H.t.get d = some (.dict es ep) /\ es.length = m /\ xb9 d m ep k f st = match es[k]? with | some e => f e st | none => .ok none st := by
 unfold xb9 at h ⊢
 induction e : st.H.t.get d with
 | none => exact q3q (e ▸ h)
 | some ao =>
  rw [e] at h
  obtain ⟨es, ep', rfl⟩ : ∃ es ep', ao = .dict es ep' := by induction ao <;> first | exact ⟨_, _, rfl⟩ | exact q3q h
  dsimp only at h ⊢
  induction e2 : Nat.beq es.length m && Nat.beq ep ep' with
  | false => exact q3q (e2 ▸ h)
  | true =>
   rw [Bool.and_eq_true] at e2
   have h1 := Nat.eq_of_beq_eq_true e2.1
   have h2 := Nat.eq_of_beq_eq_true e2.2
   subst h2
   exact ⟨es, rfl, h1, rfl⟩
theorem qp4 {V : List Addr} : ∀ {es : List (List Nat × AV)} {fs : List DictEntry} {i : Nat} {b : List Nat × AV}, k1q g V es fs -> es[i]? = some b -> ∃ w, (qw3 es fs)[i]? = some (⟨b.1.toArray⟩, w) /\ repV g.ν V b.2 w
 | [], [], _, _, _, e => by simp at e
 | [], _ :: _, _, _, h, _ => h.elim
 | _ :: _, [], _, _, h, _ => h.elim
 | a :: l, e :: r, 0, b, h, q => by simp at q; subst q; exact ⟨e.val, rfl, h.2.1⟩
 | a :: l, e :: r, i + 1, b, h, q => by
  obtain ⟨u, h1, h2⟩ := qp4 (i := i) h.2.2 (by simpa using q)
  exact ⟨u, by simpa [qw3] using h1, h2⟩
theorem zd1 (hq : cx.q = true) (htup : tup = true -> ∃ elts x p, target = .Tuple elts x p) (hA : AOk cx n A) (I : Inv g cx V st s) (hown : ∀ b, ownP a a2 b -> g.U.get? b = none /\ b ∉ V /\ b ≠ cx.env.locals /\ ¬ Fs cx.fr b)
 (hs : qk8 V src k a a2 s.heap) (hb : qj3 tup src k st ≠ .bad) (E : VP) :
 wpAny (model prog g.w) A (pyNext (.ref a)) (fun r s₁ => match r with
  | none => qj3 tup src k st = .ok none st /\ Ended a a2 s s₁
  | some v => wpAny (model prog g.w) A (letOwnedTupleGo target (.ref a) v) (fun _ sB => Turned g cx src k a a2 V s v (qj3 tup src k st) sB) E s₁) E s := by
 have hh := hA.quiet hq
 have endK : ∀ {h' : Heap}, Heap.ExtBut a s.heap h' -> Ended a a2 s { s with heap := h' } := fun {h'} hx => ⟨h', s.toks, rfl, fun b o e h1 _ => hx b o h1 e⟩
 induction src with
 | list i =>
  obtain ⟨l, h1, hit⟩ := hs
  unfold qj3 at hb ⊢
  dsimp only at hb ⊢
  obtain ⟨xs, e⟩ := xf3 hb
  . rw [e] at hb
    try rw [e]
    dsimp only at hb ⊢
    obtain ⟨l', o, h2, h3, ⟨vs, n1, hr, rfl⟩⟩ := I.heap i _ e
    obtain rfl := w4z (h1.symm.trans h2)
    have hl : s.heap.IsList l vs.toArray := ⟨_, h3, rfl, n1, rfl⟩
    induction hx : xs[k]? with
    | none =>
     refine wpAny_pyNext_list_end hh hit hl ?_ fun h' hx' => ⟨rfl, endK hx'⟩
     have : vs.length <= k := by rw [<- hr.length]; exact List.getElem?_eq_none_iff.mp hx
     simpa using this
    | some y =>
     obtain ⟨v, h4, h5⟩ := hr.get hx
     refine wpAny_pyNext_list_item hit hl (x := v) (by simpa using h4) fun h' hit' hs' => ?_
     obtain ⟨oi, q1, q2, q3⟩ := id hit'
     exact qa1 (tk := s.toks) I hown rfl h5 ⟨l, h1, hit'⟩ (fun b o e h1 _ => hs'.extBut b o h1 e) q1 q2 (by decide)
 | tuple i =>
  obtain ⟨l, h1, hit⟩ := hs
  unfold qj3 at hb ⊢
  dsimp only at hb ⊢
  obtain ⟨xs, e⟩ := zg2 hb
  . rw [e] at hb
    try rw [e]
    dsimp only at hb ⊢
    obtain ⟨l', o, h2, h3, ⟨vs, n1, hr, rfl⟩⟩ := I.heap i _ e
    obtain rfl := w4z (h1.symm.trans h2)
    have hl : s.heap.IsTuple l vs.toArray := ⟨_, h3, rfl, n1, rfl⟩
    induction hx : xs[k]? with
    | none =>
     refine wpAny_pyNext_tuple_end hh hit hl ?_ fun h' hx' => ⟨rfl, endK hx'⟩
     have : vs.length <= k := by rw [<- hr.length]; exact List.getElem?_eq_none_iff.mp hx
     simpa using this
    | some y =>
     obtain ⟨v, h4, h5⟩ := hr.get hx
     refine wpAny_pyNext_tuple_item hit hl (x := v) (by simpa using h4) fun h' hit' hs' => ?_
     obtain ⟨oi, q1, q2, q3⟩ := id hit'
     exact qa1 (tk := s.toks) I hown rfl h5 ⟨l, h1, hit'⟩ (fun b o e h1 _ => hs'.extBut b o h1 e) q1 q2 (by decide)
 | range m =>
  obtain ⟨left, h1, hit⟩ := hs
  unfold qj3 at hb ⊢
  dsimp only at hb ⊢
  induction e : Nat.blt k m with
  | true =>
   have hlt : k < m := w5z e
   refine wpAny_pyNext_range_item hit (by omega) fun h' hit' hs' => ?_
   refine qa1 I hown rfl (qu8 g.ν V (.ofNat k) s.toks) ⟨left - 1, by omega, ?_⟩ (fun b o e h1 _ => hs'.extBut b o h1 e) hit' rfl (by decide)
   have e1 : ((k + 1 : Nat) : Int) = (k : Int) + 1 := by exact Int.natCast_succ _
   have e2 : ((left - 1 : Nat) : Int) = (left : Int) - 1 := by omega
   rw [e1, e2]; exact hit'
  | false =>
   have hge : ¬ k < m := fun z => by rw [show Nat.blt k m = true from Nat.ble_eq_true_of_le z] at e; exact jh5 e
   exact wpAny_pyNext_range_end hh hit (by omega) fun h' hx' => ⟨rfl, endK hx'⟩
 | chars x =>
  obtain ⟨t, hit⟩ := hs
  unfold qj3 at hb ⊢
  dsimp only at hb ⊢
  have hw : (⟨x.toArray⟩ : Str).cps.all (· < 128) = true \/ (⟨x.toArray⟩ : Str).cps.all (· < 128) = false := by
   cases (⟨x.toArray⟩ : Str).cps.all (· < 128)
   . exact .inr rfl
   . exact .inl rfl
  induction e : x[k]? with
  | none =>
   have hx : (⟨x.toArray⟩ : Str).cps[k]? = none := by simpa using e
   rcases hw with hw | hw
   . have eT : strIterType ⟨x.toArray⟩ = "str_ascii_iterator" := by unfold strIterType; rw [if_pos hw]
     rw [eT] at hit
     exact wpAny_pyNext_ascii_end hh hit hx fun h' hx' => ⟨rfl, endK hx'⟩
   . have eT : strIterType ⟨x.toArray⟩ = "str_iterator" := by unfold strIterType; rw [if_neg (by rw [hw]; exact Bool.false_ne_true)]
     rw [eT] at hit
     exact wpAny_pyNext_wide_end hh hit hx fun h' hx' => ⟨rfl, endK hx'⟩
  | some c =>
   have hx : (⟨x.toArray⟩ : Str).cps[k]? = some c := by simpa using e
   rcases hw with hw | hw
   . have eT : strIterType ⟨x.toArray⟩ = "str_ascii_iterator" := by unfold strIterType; rw [if_pos hw]
     rw [eT] at hit
     refine wpAny_pyNext_ascii_item hit hx fun h' hit' hs' => ?_
     obtain ⟨oi, q1, q2, q3⟩ := id hit'
     exact qa1 I hown rfl ⟨_, rfl⟩ ⟨t, eT.symm ▸ hit'⟩ (fun b o e h1 _ => hs'.extBut b o h1 e) q1 q2 (by decide)
   . have eT : strIterType ⟨x.toArray⟩ = "str_iterator" := by unfold strIterType; rw [if_neg (by rw [hw]; exact Bool.false_ne_true)]
     rw [eT] at hit
     refine wpAny_pyNext_wide_item hit hx fun h' hit' hs' => ?_
     obtain ⟨oi, q1, q2, q3⟩ := id hit'
     exact qa1 I hown rfl ⟨_, rfl⟩ ⟨t, eT.symm ▸ hit'⟩ (fun b o e h1 _ => hs'.extBut b o h1 e) q1 q2 (by decide)
 | keys d m ep =>
  obtain ⟨l, h1, hit⟩ := hs
  unfold qj3 at hb ⊢
  dsimp only at hb ⊢
  obtain ⟨es, e1, e2, e3⟩ := qx2 hb
  rw [e3] at hb ⊢
  obtain ⟨l', o, h2, h3, hr⟩ := I.heap d _ e1
  obtain rfl := w4z (h1.symm.trans h2)
  obtain ⟨fs, q1, q2, q3, q4⟩ := qh1 (prog := prog) h3 hr
  have hit' : s.heap.IsKeyIter a l k (qw3 es fs).length ep := by rw [q4, e2]; exact hit
  induction hx : es[k]? with
  | none =>
   refine wpAny_pyNext_dict_end hh hit' q3 ?_ fun h' hx' => ⟨rfl, endK hx'⟩
   have : es.length <= k := List.getElem?_eq_none_iff.mp hx
   exact List.getElem?_eq_none (by exact Nat.le_trans (Nat.le_of_eq (by assumption)) (by assumption))
  | some y =>
   obtain ⟨w, h4, h5⟩ := qp4 q1 hx
   refine wpAny_pyNext_dict_item hit' q3 h4 fun key h' hkey hit2 hs' => ?_
   obtain ⟨t, rfl⟩ := Value.isStrOf_shape hkey
   obtain ⟨oi, w1, w2, w3⟩ := id hit2
   refine qa1 (tk := s.toks) I hown rfl ⟨t, rfl⟩ ⟨l, h1, ?_⟩ (fun b o e h1 _ => hs'.extBut b o h1 e) w1 w2 (by decide)
   rw [q4, e2] at hit2; exact hit2
 | vals d m ep =>
  obtain ⟨l, h1, hit⟩ := hs
  unfold qj3 at hb ⊢
  dsimp only at hb ⊢
  obtain ⟨es, e1, e2, e3⟩ := qx2 hb
  rw [e3] at hb ⊢
  obtain ⟨l', o, h2, h3, hr⟩ := I.heap d _ e1
  obtain rfl := w4z (h1.symm.trans h2)
  obtain ⟨fs, q1, q2, q3, q4⟩ := qh1 (prog := prog) h3 hr
  have hit' : s.heap.IsValIter a l k (qw3 es fs).length ep := by rw [q4, e2]; exact hit
  induction hx : es[k]? with
  | none =>
   refine wpAny_pyNext_values_end hh hit' q3 ?_ fun h' hx' => ⟨rfl, endK hx'⟩
   have : es.length <= k := List.getElem?_eq_none_iff.mp hx
   exact List.getElem?_eq_none (by exact Nat.le_trans (Nat.le_of_eq (by assumption)) (by assumption))
  | some y =>
   obtain ⟨w, h4, h5⟩ := qp4 q1 hx
   refine wpAny_pyNext_values_item hit' q3 h4 fun h' hit2 hs' => ?_
   obtain ⟨oi, w1, w2, w3⟩ := id hit2
   refine qa1 (tk := s.toks) I hown rfl h5 ⟨l, h1, ?_⟩ (fun b o e h1 _ => hs'.extBut b o h1 e) w1 w2 (by decide)
   rw [q4, e2] at hit2; exact hit2
 | items d m ep =>
  obtain ⟨l, ok, ov, h1, hit⟩ := hs
  unfold qj3 at hb ⊢
  induction tup with
  | false => exact q3q hb
  | true =>
   obtain ⟨elts, x1, p1, rfl⟩ := htup rfl
   dsimp only at hb ⊢
   obtain ⟨es, e1, e2, e3⟩ := qx2 hb
   rw [e3] at hb ⊢
   obtain ⟨l', o, h2, h3, hr⟩ := I.heap d _ e1
   obtain rfl := w4z (h1.symm.trans h2)
   obtain ⟨fs, q1, q2, q3, q4⟩ := qh1 (prog := prog) h3 hr
   have hit' : IsItemIter s.heap a l k (qw3 es fs).length ep ok ov := by rw [q4, e2]; exact hit
   induction hx : es[k]? with
   | none =>
    refine wpAny_pyNext_items_end hh hit' q3 ?_ fun h' hx' => ⟨rfl, endK hx'⟩
    have : es.length <= k := List.getElem?_eq_none_iff.mp hx
    exact List.getElem?_eq_none (by exact Nat.le_trans (Nat.le_of_eq (by assumption)) (by assumption))
   | some y =>
    rw [hx] at hb
    dsimp only at hb
    obtain ⟨w, h4, h5⟩ := qp4 q1 hx
    refine wpAny_pyNext_items_item hit' q3 h4 fun key h' hkey hit2 htp hz hs' => ?_
    obtain ⟨t, rfl⟩ := Value.isStrOf_shape hkey
    refine wpAny_letOwnedTupleGo_items hit2 fun h'' hit3 hs3 => ?_
    have hnone : s.heap.get? s.heap.objs.size = none := by
     induction q : s.heap.get? s.heap.objs.size with
     | none => rfl
     | some o => exact absurd (Heap.lt_size q) (Nat.lt_irrefl _)
    have hna : s.heap.objs.size ≠ a := fun z => by have h : s.heap.get? a = _ := hit; rw [<- z, hnone] at h; exact q6q h
    have hk2 : ∀ b o, s.heap.get? b = some o -> b ≠ a -> b ≠ a2 -> h''.get? b = some o := fun b o e h1 _ => hs3.extBut b o h1 (hs' b o h1 e)
    have hb' : xp8 [.str y.1, y.2] st ≠ .bad := hb
    unfold xp8 at hb'
    induction e5 : Nat.blt st.H.n z5q with
    | false => rw [e5] at hb'; exact q3q hb'
    | true =>
     have J := qv3 I hown s.toks hk2
     have nn := I.none_of hnone
     have K := J.adopt (a := s.heap.objs.size) (ao := .tuple [.str y.1, y.2]) (hs3.extBut _ _ hna htp) ⟨nn.1, nn.2.2.2, nn.2.1, nn.2.2.1⟩ ⟨[.str ⟨y.1.toArray⟩ t, w], 0, ⟨⟨t, rfl⟩, h5.mono ⟨_, rfl⟩, trivial⟩, rfl⟩ e5
     refine ⟨.ref st.H.n, _, _, ?_, ⟨_, ?_, rfl⟩, K, ⟨l, .str ⟨y.1.toArray⟩ t, w, Pre.get (V := V) ⟨[s.heap.objs.size], rfl⟩ h1, ?_⟩, ⟨_, rfl⟩, fun x hx hn => ?_, hk2⟩
     . unfold xp8; rw [e5]
     . rw [I.size]; simp
     . rw [q4, e2] at hit3; exact hit3
     . rcases List.mem_append.mp hx with z | z
       . exact absurd z hn
       . rw [List.mem_singleton.mp z]; exact hnone
 | enum i =>
  obtain ⟨l, old, h1, hne, hen, hit⟩ := hs
  unfold qj3 at hb ⊢
  induction tup with
  | false => exact q3q hb
  | true =>
   obtain ⟨elts, x1, p1, rfl⟩ := htup rfl
   dsimp only at hb ⊢
   obtain ⟨xs, e⟩ := xf3 hb
   . rw [e] at hb
     try rw [e]
     dsimp only at hb ⊢
     obtain ⟨l', o, h2, h3, ⟨vs, n1, hr, rfl⟩⟩ := I.heap i _ e
     obtain rfl := w4z (h1.symm.trans h2)
     have hl : s.heap.IsList l vs.toArray := ⟨_, h3, rfl, n1, rfl⟩
     induction hx : xs[k]? with
     | none =>
      refine wpAny_pyNext_enum_end hh hen hit hl ?_ fun h' hx' => ⟨rfl, ⟨h', s.toks, rfl, fun b o e _ h2 => hx' b o h2 e⟩⟩
      have : vs.length <= k := by rw [<- hr.length]; exact List.getElem?_eq_none_iff.mp hx
      simpa using this
     | some y =>
      rw [hx] at hb
      dsimp only at hb
      obtain ⟨v, h4, h5⟩ := hr.get hx
      refine wpAny_pyNext_enum_item hen hit hl (x := v) (by simpa using h4) hne fun h' hen2 hit2 htp hz hs' => ?_
      refine wpAny_letOwnedTupleGo_enum hen2 fun h'' hen3 hs3 => ?_
      have hnone : s.heap.get? s.heap.objs.size = none := by
       induction q : s.heap.get? s.heap.objs.size with
       | none => rfl
       | some o => exact absurd (Heap.lt_size q) (Nat.lt_irrefl _)
      have hna : s.heap.objs.size ≠ a := fun z => by have h : s.heap.get? a = _ := hen; rw [<- z, hnone] at h; exact q6q h
      have hk2 : ∀ b o, s.heap.get? b = some o -> b ≠ a -> b ≠ a2 -> h''.get? b = some o := fun b o e h1 h2 => hs3.extBut b o h1 (hs' b o h1 h2 e)
      unfold xp8 at hb
      induction e5 : Nat.blt st.H.n z5q with
      | false => exact q3q (e5 ▸ hb)
      | true =>
       have J := qv3 I hown (s.toks + 1) hk2
       have nn := I.none_of hnone
       have K := J.adopt (a := s.heap.objs.size) (ao := .tuple [litI (.ofNat k), y]) (hs3.extBut _ _ hna htp) ⟨nn.1, nn.2.2.2, nn.2.1, nn.2.2.1⟩ ⟨[.int k s.toks, v], 0, ⟨qu8 g.ν _ (.ofNat k) _, h5.mono ⟨_, rfl⟩, trivial⟩, rfl⟩ e5
       refine ⟨.ref st.H.n, _, _, ?_, ⟨_, ?_, rfl⟩, K, ⟨l, v, Pre.get (V := V) ⟨[s.heap.objs.size], rfl⟩ h1, hne, ?_, hit2.extBut hs3.extBut (Ne.symm hne)⟩, ⟨_, rfl⟩, fun x hx hn => ?_, hk2⟩
       . unfold xp8; rw [e5]
       . rw [I.size]; simp
       . have e1 : ((k + 1 : Nat) : Int) = (k : Int) + 1 := by exact Int.natCast_succ _
         rw [e1]; exact hen3
       . rcases List.mem_append.mp hx with z | z
         . exact absurd z hn
         . rw [List.mem_singleton.mp z]; exact hnone
end
noncomputable def zf3 : Src -> Bool
 | .enum _ => true
 | _ => false
theorem qk8.live {V : List Addr} {src : Src} {k : Nat} {a a2 : Addr} {h : Heap} (x : qk8 V src k a a2 h) (hs : zf3 src = true \/ a2 = a) : ∀ b, ownP a a2 b -> ∃ o, h.get? b = some o := by
 have ha : ∃ o, h.get? a = some o := by
  induction src with
  | list i => obtain ⟨l, q1, o, q2, q3⟩ := x; exact ⟨o, q2⟩
  | tuple i => obtain ⟨l, q1, o, q2, q3⟩ := x; exact ⟨o, q2⟩
  | range m => obtain ⟨l, q1, q2⟩ := x; exact ⟨_, q2⟩
  | chars m => obtain ⟨t, o, q1, q2⟩ := x; exact ⟨o, q1⟩
  | keys d m ep => obtain ⟨l, q1, o, q2, q3⟩ := x; exact ⟨o, q2⟩
  | vals d m ep => obtain ⟨l, q1, o, q2, q3⟩ := x; exact ⟨o, q2⟩
  | items d m ep => obtain ⟨l, ok, ov, q1, q2⟩ := x; exact ⟨_, q2⟩
  | enum i => obtain ⟨l, old, q1, q2, q3, o, q4, q5⟩ := x; exact ⟨_, q3⟩
 rintro b (rfl | rfl)
 . exact ha
 . rcases hs with q | rfl
   . induction src <;> try cases q
     obtain ⟨l, old, q1, q2, q3, o, q4, q5⟩ := x; exact ⟨_, q4⟩
   . exact ha
structure IOk (g : Gl) (cx : Cx) (V : List Addr) (s : Shared) (o : Out Src) (it : Value) (s' : Shared) : Prop where
 ex : ∃ src st' ρ' a a2, o = .ok src st' /\ it = .ref a /\ Inv g cx ρ' st' s' /\ Ext cx V s.heap ρ' s'.heap /\ qk8 ρ' src 0 a a2 s'.heap /\ (zf3 src = true \/ a2 = a) /\ ∀ b, ownP a a2 b -> s.heap.get? b = none /\ b ∉ ρ'
noncomputable def RefI (g : Gl) (prog : Program) (cx : Cx) (n : Nat) (iter : Expr) (f : AM Src) : Prop := ∀ A V st s, AOk cx n A -> Inv g cx V st s -> f st ≠ .bad ->
 wpAny (model prog g.w) A (eval iter cx.env) (fun x s₁ => wpAny (model prog g.w) A (pyIter x) (fun it sB => IOk g cx V s (f st) it sB) (EOk g cx V s (f st)) s₁) (EOk g cx V s (f st)) s
theorem z0q (s : Shared) : s.heap.get? s.heap.objs.size = none := by
 induction q : s.heap.get? s.heap.objs.size with
 | none => rfl
 | some o => exact absurd (Heap.lt_size q) (Nat.lt_irrefl _)
theorem qi5 {V VA : List Addr} {st₁ : St} {s s₁ : Shared} {src : Src} {o : Obj} {f : Out Src} (I₁ : Inv g cx VA st₁ s₁) (XA : Ext cx V s.heap VA s₁.heap) (hf : f = .ok src st₁) (hs : qk8 VA src 0 s₁.heap.objs.size s₁.heap.objs.size (s₁.heap.push o)) :
 IOk g cx V s f (.ref s₁.heap.objs.size) { s₁ with heap := s₁.heap.push o } := by
 have nn := I₁.none_of (z0q s₁)
 have G := I₁.grow (h' := s₁.heap.push o) s₁.toks (fun b o e => w6z _ e)
 refine ⟨src, st₁, VA, _, _, hf, rfl, G.1, XA.trans G.2, hs, .inr rfl, ?_⟩
 have z := XA.none (z0q s₁) (fun q => nn.2.2.2 (XA.pre.mem q)) nn.2.1
 rintro b (rfl | rfl) <;> exact ⟨z, nn.2.2.2⟩
noncomputable def qa8 (a : AV) : AM Src := match a with
 | .str x => AM.ret (.chars x)
 | .ref i => fun st => match st.H.t.get i with
  | some (.list _) => .ok (.list i) st
  | some (.tuple _) => .ok (.tuple i) st
  | some (.dict es ep) => .ok (.keys i es.length ep) st
  | _ => .bad
 | _ => AM.fail
set_option tactic.hygienic true in
theorem qf3 (hsm : ∃ o, g.U.get? sysModules = some o) {iter : Expr} {f : AM AV} (h : RefE g prog cx n iter f) : RefI g prog cx n iter (f.bind qa8) := by
 intro A V st s hA I hb
 have hb1 : f st ≠ .bad := fun e => hb (by unfold AM.bind; rw [e])
 refine w3z (h A V st s hA trivial I hb1) ?_ ?_
 . rintro v s₁ ⟨b, st₁, VA, e, hR, I₁, XA⟩
   have hf : (f.bind qa8) st = qa8 b st₁ := by unfold AM.bind; rw [e]
   rw [hf] at hb ⊢
   unfold qa8 at hb ⊢
   induction b <;> try exact q3q hb
   . rename_i x
     obtain ⟨t, rfl⟩ := hR
     exact wpAny_pyIter_strU (qi5 I₁ XA rfl ⟨t, _, Heap.get?_push_size _ rfl, rfl, rfl⟩)
   . rename_i i
     dsimp only at hb ⊢
     induction e2 : st₁.H.t.get i with
     | none => rw [e2] at hb; exact q3q hb
     | some ao =>
      rw [e2] at hb
      obtain ⟨x, o, rfl, h1, h2, hr⟩ := I₁.obj e2 hR
      induction ao <;> try exact q3q hb
      . obtain ⟨vs, n1, hr, rfl⟩ := hr
        exact wpAny_pyIter_list (items := vs.toArray) ⟨_, h2, rfl, n1, rfl⟩ (qi5 I₁ XA rfl ⟨x, h1, _, Heap.get?_push_size _ rfl, rfl, rfl⟩)
      . obtain ⟨vs, n1, hr, rfl⟩ := hr
        exact wpAny_pyIter_tuple (items := vs.toArray) ⟨_, h2, rfl, n1, rfl⟩ (qi5 I₁ XA rfl ⟨x, h1, _, Heap.get?_push_size _ rfl, rfl, rfl⟩)
      . rename_i es ep
        obtain ⟨fs, q1, q2, q3, q4⟩ := qh1 (prog := prog) h2 hr
        refine wpAny_pyIter_dict (xj6 hsm I₁ h1) q3 ?_
        rw [q4]
        exact qi5 I₁ XA rfl ⟨x, h1, _, Heap.get?_push_size _ rfl, rfl, rfl⟩
 . rintro x s₁ ⟨c, st₁, VA, e, hR, I₁, XA⟩
   exact ⟨c, st₁, VA, by unfold AM.bind; rw [e], hR, I₁, XA⟩
theorem xv7 {x : Str} {p pos : Pos} {e : Expr} {f : AM AV} {u : Value} (hx : RefE g prog cx n (.Name x p) (AM.ret (.stat u))) (hk : qf2 g prog u) (hs : qc0 g prog cx n [e] [f])
 {A : Around} {V : List Addr} {st : St} {s : Shared} (hA : AOk cx n A) (I : Inv g cx V st s) (hb : f st ≠ .bad) {Q E : VP}
 (hq : ∀ a v st₁ VA s₁, f st = .ok a st₁ -> repV g.ν VA a v -> Inv g cx VA st₁ s₁ -> Ext cx V s.heap VA s₁.heap -> wpAny (model prog g.w) A (call u [v]) Q E s₁) (he : ∀ v s', EOk g cx V s (f st) v s' -> E v s') :
 wpAny (model prog g.w) A (eval (.Call (.Name x p) [e] [] pos) cx.env) Q E s := by
 refine wpAny_Call_Name_kw (w3z (hx A V st s hA trivial I (fun z => nomatch z)) ?_ ?_)
 . rintro v s₁ ⟨b, st₁, VA, e1, hr, I₁, XA⟩
   obtain ⟨rfl, rfl⟩ := z7q e1
   cases hr
   refine hk A pos [] _ _ _ s₁ (u0q hs) ?_
   have hb2 : q8q [f] st ≠ .bad := by
    intro z
    unfold q8q AM.bind at z
    induction q : f st with
    | bad => exact hb q
    | exc k st' => rw [q] at z; cases z
    | ok a st' => rw [q] at z; cases z
   have Z := w3z ((qb2 (pos := pos) hs) A VA st s₁ hA trivial I₁ hb2) (fun vs sB (q : QOk g cx VA s₁ (reps g.ν) (q8q [f] st) vs sB) =>
    (show (∀ b o, g.U.get? b = some o -> sB.heap.get? b = some o) /\ wpAny (model prog g.w) A (call u ([] ++ vs) []) Q E sB from by
     obtain ⟨l, stB, VB, e2, hr2, IB, XB⟩ := q
     refine ⟨IB.base, ?_⟩
     unfold q8q AM.bind at e2
     induction q : f st with
     | bad => exact absurd q hb
     | exc k st' => rw [q] at e2; exact zl1 e2
     | ok a st' =>
      rw [q] at e2
      obtain ⟨rfl, rfl⟩ := z7q e2
      obtain ⟨v, rfl, hr3⟩ := jg7 hr2
      exact hq a v _ VB sB q hr3 IB (XA.trans XB)))
    (E' := E) (fun w sB q => by
     obtain ⟨c, stB, VB, e2, hr2, IB, XB⟩ := q
     refine he _ _ ⟨c, stB, VB, ?_, hr2.mono XA XB.pre, IB, XA.trans XB⟩
     unfold q8q AM.bind at e2
     induction q : f st with
     | bad => exact absurd q hb
     | exc k st' => rw [q] at e2; obtain ⟨rfl, rfl⟩ := zx4 e2; rfl
     | ok a st' => rw [q] at e2; exact qj7 e2)
   obtain ⟨x', rest, e1, e2⟩ := w6q (pos := pos) hs.2.1
   rw [e1] at Z ⊢
   exact evalArgs_plain Z
 . rintro v s₁ ⟨b, st₁, VA, e, _⟩
   exact qj7 e
noncomputable def qh7 (a : AV) : AM Src := match a with
 | .int j => match j.lit? with
  | some (.ofNat m) => match Nat.ble m 1000000 with
   | true => AM.ret (.range m)
   | false => AM.fail
  | _ => AM.fail
 | _ => AM.fail
theorem xp1 (m : Nat) (h : m <= 1000000) : Builtin.Range.small 0 (m : Int) 1 = true /\ Builtin.Range.rangeSize 0 (m : Int) 1 = (m : Int) := by
 have e : Builtin.Range.rangeSize 0 (m : Int) 1 = (m : Int) := by
  unfold Builtin.Range.rangeSize
  by_cases hm : m = 0
  . subst hm; simp
  . simp; omega
 refine ⟨?_, e⟩
 unfold Builtin.Range.small
 rw [e]
 unfold Builtin.Range.rangeFitsLong
 simp
 omega
theorem qy4 {x : Str} {p pos : Pos} {e : Expr} {f : AM AV} (hx : RefE g prog cx n (.Name x p) (AM.ret (.stat (.type "range")))) (hs : qc0 g prog cx n [e] [f]) : RefI g prog cx n (.Call (.Name x p) [e] [] pos) (f.bind qh7) := by
 intro A V st s hA I hb
 have hb1 : f st ≠ .bad := fun e => hb (by unfold AM.bind; rw [e])
 refine xv7 hx xe6 hs hA I hb1 (fun a v st₁ VA s₁ e hr I₁ XA => ?_) (fun v s' q => ?_)
 . have hf : (f.bind qh7) st = qh7 a st₁ := by unfold AM.bind; rw [e]
   rw [hf] at hb ⊢
   unfold qh7 at hb ⊢
   obtain ⟨j, rfl⟩ := xq5 hb
   dsimp only at hb ⊢
   obtain ⟨t, rfl⟩ := hr
   induction e0 : j.lit? with
   | none => rw [e0] at hb; exact q3q hb
   | some c =>
    induction c with
    | negSucc m => rw [e0] at hb; exact q3q hb
    | ofNat m =>
     rw [e0] at hb
     rw [SI.lit_val e0]
     dsimp only at hb ⊢
     induction e3 : Nat.ble m 1000000 with
     | false => rw [e3] at hb; exact q3q hb
     | true =>
      have hm := w5z e3
      obtain ⟨q1, q2⟩ := xp1 m hm
      refine call_range_1 (n := (m : Int)) ?_
      refine wpAny_pyIter_range (a := 0) (b := (m : Int)) (c := 1) (Heap.get?_push_size _ rfl) q1 ?_
      rw [q2]
      have G := I₁.grow (h' := s₁.heap.push { cls := .type "range", data := .fields #[.int 0 s₁.toks, .int m t, .int 1 (s₁.toks + 1)] }) (s₁.toks + 1 + 1) (fun b o e => w6z _ e)
      exact qi5 G.1 (XA.trans G.2) rfl ⟨m, by exact Nat.zero_add _, Heap.get?_push_size _ rfl⟩
 . obtain ⟨c, st₁, VA, e, hR, I₁, XA⟩ := q
   exact ⟨c, st₁, VA, by unfold AM.bind; rw [e], hR, I₁, XA⟩
noncomputable def xb7 (a : AV) : AM Src := match a with
 | .ref i => qb8 i fun _ => AM.ret (.enum i)
 | _ => AM.fail
theorem zs9 {x : Str} {p pos : Pos} {e : Expr} {f : AM AV} (hx : RefE g prog cx n (.Name x p) (AM.ret (.stat (.type "enumerate")))) (hs : qc0 g prog cx n [e] [f]) : RefI g prog cx n (.Call (.Name x p) [e] [] pos) (f.bind xb7) := by
 intro A V st s hA I hb
 have hb1 : f st ≠ .bad := fun e => hb (by unfold AM.bind; rw [e])
 refine xv7 hx xe6 hs hA I hb1 (fun a v st₁ VA s₁ e hr I₁ XA => ?_) (fun v s' q => ?_)
 . have hf : (f.bind xb7) st = xb7 a st₁ := by unfold AM.bind; rw [e]
   rw [hf] at hb ⊢
   unfold xb7 at hb ⊢
   obtain ⟨i, rfl⟩ := x7q hb
   dsimp only at hb ⊢
   obtain ⟨xs, e1, e2⟩ := y1q hb
   rw [e2]
   obtain ⟨y, o, rfl, h1, h2, ⟨vs, n1, hr, rfl⟩⟩ := I₁.obj e1 hr
   have hl : s₁.heap.IsList y vs.toArray := ⟨_, h2, rfl, n1, rfl⟩
   have n1' : s₁.heap.get? s₁.heap.objs.size = none := z0q s₁
   have n2 : s₁.heap.get? (s₁.heap.objs.size + 1) = none := by
    induction q : s₁.heap.get? (s₁.heap.objs.size + 1) with
    | none => rfl
    | some o => exact absurd (Heap.lt_size q) (Nat.not_lt.mpr (Nat.le_succ _))
   refine call_enumerate_list hl fun h' he hit hz hk => wpAny_pyIter_enum he ?_
   have G := I₁.grow (h' := h') s₁.toks hk
   have m1 := I₁.none_of n1'
   have m2 := I₁.none_of n2
   refine ⟨.enum i, st₁, VA, _, _, rfl, rfl, G.1, XA.trans G.2, ⟨y, .none, h1, Nat.succ_ne_self _, he, hit⟩, .inl rfl, ?_⟩
   rintro b (rfl | rfl)
   . exact ⟨XA.none n2 (fun q => m2.2.2.2 (XA.pre.mem q)) m2.2.1, m2.2.2.2⟩
   . exact ⟨XA.none n1' (fun q => m1.2.2.2 (XA.pre.mem q)) m1.2.1, m1.2.2.2⟩
 . obtain ⟨c, st₁, VA, e, hR, I₁, XA⟩ := q
   exact ⟨c, st₁, VA, by unfold AM.bind; rw [e], hR, I₁, XA⟩
noncomputable def qs9 (mk : Nat -> Nat -> Nat -> Src) (a : AV) : AM Src := match a with
 | .ref i => fun st => match st.H.t.get i with
  | some (.dict es ep) => .ok (mk i es.length ep) st
  | _ => .bad
 | _ => AM.fail
theorem zs8 {name : Str} {id : String} {T : String} {mk : Nat -> Nat -> Nat -> Src} {o : Expr} {apos pos : Pos} {f : AM AV} (slot : Slot "dict" name id) (hty : typeOf (.builtin id) = pure (.type "method_descriptor"))
 (hcall : ∀ {A : Around} {s : Shared} {d : Addr} {kvs : List (Str × Value)} {Q E : VP}, (d == sysModules) = false -> s.heap.DictOf (strKind prog g.w) d kvs -> Q (.ref s.heap.objs.size) { s with heap := s.heap.push { cls := .type T, data := .fields #[.ref d] } } -> wpAny (model prog g.w) A (call (.builtin id) [.ref d]) Q E s)
 (hit : ∀ {A : Around} {V VA : List Addr} {st₁ : St} {s s₁ : Shared} {d : Addr} {i : Nat} {kvs : List (Str × Value)} {ep : Nat} {E : VP}, Inv g cx VA st₁ { s₁ with heap := s₁.heap.push { cls := .type T, data := .fields #[.ref d] } } -> Ext cx V s.heap VA (s₁.heap.push { cls := .type T, data := .fields #[.ref d] }) -> VA[i]? = some d -> s₁.heap.DictAt (strKind prog g.w) d kvs ep ->
  wpAny (model prog g.w) A (pyIter (.ref s₁.heap.objs.size)) (fun it sB => IOk g cx V s (.ok (mk i kvs.length ep) st₁) it sB) E { s₁ with heap := s₁.heap.push { cls := .type T, data := .fields #[.ref d] } })
 (hsm : ∃ o, g.U.get? sysModules = some o) (h : RefE g prog cx n o f) (pl : Sem Bool) (he : eval (.Call (.Attribute o name apos) [] [] pos) cx.env = (do
  let ov <- eval o cx.env
  standAt apos.atName
  let (f, first) <- holding [ov] (getMethod ov name pl)
  callWith pos f first (backTo pos (starEach [] cx.env)) [])) : RefI g prog cx n (.Call (.Attribute o name apos) [] [] pos) (f.bind (qs9 mk)) := by
 intro A V st s hA I hb
 have hb1 : f st ≠ .bad := fun e => hb (by unfold AM.bind; rw [e])
 refine MethodCall_ (pl := pl) (w3z (h A V st s hA trivial I hb1) ?_ ?_) he
 . rintro v s₁ ⟨b, st₁, VA, e, hR, I₁, XA⟩
   have hf : (f.bind (qs9 mk)) st = qs9 mk b st₁ := by unfold AM.bind; rw [e]
   rw [hf] at hb ⊢
   unfold qs9 at hb ⊢
   obtain ⟨i, rfl⟩ := x7q hb
   dsimp only at hb ⊢
   obtain ⟨es, ep, e2⟩ := qf6 hb
   . rw [e2] at hb
     try rw [e2]
     obtain ⟨x, o, rfl, h1, h2, hr⟩ := I₁.obj e2 hR
     obtain ⟨fs, q1, q2, q3, q4⟩ := qh1 (prog := prog) h2 hr
     refine getMethod_builtin q3.dictOf.typeIs PySem.F.plainAttrs_dict slot hty (fun a e => by obtain rfl := Value.ref.inj e; exact ⟨_, h2, by rw [q2]⟩) ?_
     refine callWith_method0 ?_
     refine hcall (xj6 hsm I₁ h1) q3.dictOf ?_
     have G := I₁.grow (h' := s₁.heap.push { cls := .type T, data := .fields #[.ref x] }) s₁.toks (fun b o e => w6z _ e)
     have Z := hit (A := A) (E := EOk g cx V s (.ok (mk i es.length ep) st₁)) G.1 (XA.trans G.2) h1 q3
     rw [q4] at Z
     exact Z
 . rintro x s₁ ⟨c, st₁, VA, e, hR, I₁, XA⟩
   exact ⟨c, st₁, VA, by unfold AM.bind; rw [e], hR, I₁, XA⟩
theorem jf7 (hsm : ∃ o, g.U.get? sysModules = some o) {o : Expr} {apos pos : Pos} {f : AM AV} (h : RefE g prog cx n o f) (pl : Sem Bool) (he : eval (.Call (.Attribute o "items" apos) [] [] pos) cx.env = (do
 let ov <- eval o cx.env
 standAt apos.atName
 let (f, first) <- holding [ov] (getMethod ov "items" pl)
 callWith pos f first (backTo pos (starEach [] cx.env)) [])) : RefI g prog cx n (.Call (.Attribute o "items" apos) [] [] pos) (f.bind (qs9 .items)) := by
 refine zs8 (id := "dict.items") (T := "dict_items") PySem.F.slot_dict_items PySem.F.type_dict_items (fun hd hm h => ?_) (fun I₁ XA h1 hm => ?_) hsm h pl he
 . exact call_meetsIn PySem.F.slot_dict_items hm.typeIs PySem.F.entry_dict_items (PySem.F.args_dict_items_1 _) (meets_dict_items (strKind prog g.w) _ hd) ⟨⟨_, hm⟩, h⟩
 . refine wpAny_pyIter_items ⟨_, Heap.get?_push_size _ rfl, rfl, rfl⟩ (hm.push _) ?_
   exact qi5 I₁ XA rfl ⟨_, _, _, h1, Heap.get?_push_size _ rfl⟩
theorem zq7 (hsm : ∃ o, g.U.get? sysModules = some o) {o : Expr} {apos pos : Pos} {f : AM AV} (h : RefE g prog cx n o f) (pl : Sem Bool) (he : eval (.Call (.Attribute o "values" apos) [] [] pos) cx.env = (do
 let ov <- eval o cx.env
 standAt apos.atName
 let (f, first) <- holding [ov] (getMethod ov "values" pl)
 callWith pos f first (backTo pos (starEach [] cx.env)) [])) : RefI g prog cx n (.Call (.Attribute o "values" apos) [] [] pos) (f.bind (qs9 .vals)) := by
 refine zs8 (id := "dict.values") (T := "dict_values") PySem.F.slot_dict_values PySem.F.type_dict_values (fun hd hm h => ?_) (fun I₁ XA h1 hm => ?_) hsm h pl he
 . exact call_meetsIn PySem.F.slot_dict_values hm.typeIs PySem.F.entry_dict_values (PySem.F.args_dict_values_1 _) (meets_dict_values (strKind prog g.w) _ hd) ⟨⟨_, hm⟩, h⟩
 . refine wpAny_pyIter_values ⟨_, Heap.get?_push_size _ rfl, rfl, rfl⟩ (hm.push _) ?_
   exact qi5 I₁ XA rfl ⟨_, h1, _, Heap.get?_push_size _ rfl, rfl, rfl⟩
theorem xf7 {V VA VB : List Addr} {st₁ : St} {s s₁ : Shared} {h₂ : Heap} {a a2 : Addr} (XA : Ext cx V s.heap VA s₁.heap) (I₁ : Inv g cx VA st₁ s₁) (hown : ∀ b, ownP a a2 b -> s.heap.get? b = none) (hp : Pre VA VB) (hf : ∀ x ∈ VB, x ∉ VA -> s₁.heap.get? x = none)
 (hk : ∀ b o, s₁.heap.get? b = some o -> b ≠ a -> b ≠ a2 -> h₂.get? b = some o) : Ext cx V s.heap VB h₂ := by
 refine ⟨XA.pre.trans hp, fun x hx hn => ?_, fun b o e nb nl => ?_⟩
 . by_cases q : x ∈ VA
   . exact XA.fresh x q hn
   . have z := hf x hx q
     have nn := I₁.none_of z
     exact ⟨XA.none z (fun y => q (XA.pre.mem y)) nn.2.1, nn.2.1⟩
 . have ha : b ≠ a := fun z => by rw [z, hown a (.inl rfl)] at e; exact q6q e
   have ha2 : b ≠ a2 := fun z => by rw [z, hown a2 (.inr rfl)] at e; exact q6q e
   obtain ⟨k1, sl, k2⟩ := XA.keep b o e nb nl
   exact ⟨fun nf => hk b o (k1 nf) ha ha2, sl, hk b _ k2 ha ha2⟩
theorem qp0 {V ρ' : List Addr} {s : Shared} {h' : Heap} {a a2 : Addr} (hn : ∀ b, ownP a a2 b -> b ∉ V) (hl : ∀ b, ownP a a2 b -> ∃ o, s.heap.get? b = some o) (hf : ∀ x ∈ ρ', x ∉ V -> s.heap.get? x = none) : ∀ b, ownP a a2 b -> b ∉ ρ' := by
 intro b hb hm
 obtain ⟨o, e⟩ := hl b hb
 have := hf b hm (hn b hb)
 exact k2q (e.symm.trans this)
noncomputable def forI (tup : Bool) (src : Src) (tg : AV -> AM Unit) (body : AM AF) (K : Nat) : Nat -> AM AF := Nat.rec (motive := fun _ => Nat -> AM AF) (fun _ => AM.fail) (fun _ ih i => noexc ((qj3 tup src i).bind fun r =>
 Option.rec (motive := fun _ => AM AF) (AM.ret .next) (fun v => (tg v).bind fun _ => body.bind fun x => AF.rec (motive := fun _ => AM AF) (ih (Nat.succ i)) (AM.ret .next) (ih (Nat.succ i)) (fun v => AM.ret (.ret v)) x) r)) K
theorem qh2 {target iter : Expr} {body : List Stmt} {pos : Pos} {f : AM Src} {tg : AV -> AM Unit} {fb : AM AF} (K : Nat) (tup : Bool) (hq : cx.q = true)
 (hs : ∀ x, foldedSetIterable iter cx.env x = pure x) (htup : tup = true -> ∃ elts x p, target = .Tuple elts x p)
 (h : RefI g prog cx n iter f) (h3 : TgOk g prog cx n target tg) (h4 : RefB g prog cx n body fb) :
 RefS g prog cx n (.For target iter body [] pos) (f.bind fun src => forI tup src tg fb K 0) := by
 intro A V st s hA _ I hb
 have hb1 : f st ≠ .bad := fun e => hb (by unfold AM.bind; rw [e])
 have hE : ∀ v s', EOk g cx V s (f st) v s' -> EOk g cx V s ((f.bind fun src => forI tup src tg fb K 0) st) v s' := by
  rintro v s' ⟨c, st₁, VA, e, hR, I₁, XA⟩
  exact ⟨c, st₁, VA, by unfold AM.bind; rw [e], hR, I₁, XA⟩
 refine wpAny_For (w3z (h A V st s hA I hb1) (fun x s₁ h₁ => w3z h₁ ?_ (fun v s' q => hE v s' q)) fun v s' q => hE v s' q) hs
 rintro it sB ⟨src, stB, VB, a, a2, e, rfl, IB, XB, hsrc, hen, hown⟩
 have hf : (f.bind fun src => forI tup src tg fb K 0) st = forI tup src tg fb K 0 stB := by unfold AM.bind; rw [e]
 rw [hf] at hb ⊢
 have hnone : ∀ b, ownP a a2 b -> s.heap.get? b = none := fun b hb => (hown b hb).1
 refine codeAny_forLoop_any (I := fun k s' => ∃ ρ' st' i, Inv g cx ρ' st' s' /\ Ext cx V s.heap ρ' s'.heap /\ qk8 ρ' src i a a2 s'.heap /\ (∀ b, ownP a a2 b -> b ∉ ρ') /\ forI tup src tg fb K 0 stB = forI tup src tg fb k i st') ?_ K
  ⟨VB, stB, 0, IB, XB, hsrc, fun b hb => (hown b hb).2, rfl⟩
 rintro k sC ⟨VC, stC, i, IC, XC, hsrcC, hap, e₃⟩
 induction k with
 | zero => exact absurd (e₃.trans rfl) hb
 | succ k =>
  have hb' := e₃ ▸ hb
  have hb3 : qj3 tup src i stC ≠ .bad := by
   intro z
   apply hb'
   show noexc _ stC = _
   unfold noexc AM.bind
   rw [z]
  have hownC : ∀ b, ownP a a2 b -> g.U.get? b = none /\ b ∉ VC /\ b ≠ cx.env.locals /\ ¬ Fs cx.fr b := fun b hb => by
   have nn := I.none_of (hnone b hb)
   exact ⟨nn.1, hap b hb, nn.2.1, nn.2.2.1⟩
  refine w3z (zd1 (target := target) hq htup hA IC hownC hsrcC hb3 (fun _ _ => False)) ?_ (fun _ _ z => z.elim)
  intro r sD h₄
  induction r with
  | none =>
   obtain ⟨eD, h', tk, rfl, hk⟩ := h₄
   have ID := qv3 IC hownC tk hk
   have XD := xf7 (h₂ := h') XC IC hnone (Pre.refl VC) (fun x h1 h2 => absurd h1 h2) hk
   refine wpAny_execs_nil ?_
   refine ⟨.next, stC, VC, ?_, rfl, ID, XD⟩
   rw [e₃]
   show noexc _ stC = _
   unfold noexc AM.bind
   rw [eD]
   rfl
  | some v =>
   refine w3z h₄ ?_ (fun _ _ z => z.elim)
   rintro _ sE ⟨c, st₅, VE, eE, hv, IE, hsrcE, hpE, hfE, hkE⟩
   have XE := xf7 (h₂ := sE.heap) XC IC hnone hpE hfE hkE
   have hapE := qp0 (h' := sE.heap) hap (hsrcC.live hen) hfE
   have fE : forI tup src tg fb (k + 1) i stC = noexc ((tg c).bind fun _ => fb.bind fun x => AF.rec (motive := fun _ => AM AF) (forI tup src tg fb k (i + 1)) (AM.ret .next) (forI tup src tg fb k (i + 1)) (fun v => AM.ret (.ret v)) x) st₅ := by
    show noexc ((qj3 tup src i).bind fun r => Option.rec (motive := fun _ => AM AF) (AM.ret .next) (fun v => (tg v).bind fun _ => fb.bind fun x => AF.rec (motive := fun _ => AM AF) (forI tup src tg fb k (i + 1)) (AM.ret .next) (forI tup src tg fb k (i + 1)) (fun v => AM.ret (.ret v)) x) r) stC = _
    have e5' : noexc (qj3 tup src i) stC = .ok (some c) st₅ := by unfold noexc; rw [eE]
    exact v8q e5'
   rw [fE] at hb'
   refine w3z ((h3 c v).noexc A VE st₅ sE hA hv IE (qa2 hb')) ?_ (fun _ _ z => z.elim)
   rintro _ sF ⟨_, st₆, VF, eF, _, IF, XF⟩
   have fF := v8q (k := fun _ => fb.bind fun x => AF.rec (motive := fun _ => AM AF) (forI tup src tg fb k (i + 1)) (AM.ret .next) (forI tup src tg fb k (i + 1)) (fun v => AM.ret (.ret v)) x) eF
   rw [fF] at hb'
   refine w3z (RefX.noexc h4 A VF st₆ sF hA trivial IF (qa2 hb')) ?_ (fun _ _ z => z.elim)
   rintro fl sG ⟨x, stG, VG, eG, hrG, IG, XG⟩
   have fG := v8q (k := fun x => AF.rec (motive := fun _ => AM AF) (forI tup src tg fb k (i + 1)) (AM.ret .next) (forI tup src tg fb k (i + 1)) (fun v => AM.ret (.ret v)) x) eG
   have X67 := XF.trans XG
   have XX := XE.trans X67
   have whole := e₃.trans (fE.trans (fF.trans fG))
   have hno : noexc (forI tup src tg fb k (i + 1)) stG = forI tup src tg fb k (i + 1) stG := by
    induction k with
    | zero => rfl
    | succ k => exact qn6
   have hloc : ∀ b, ownP a a2 b -> b ≠ cx.env.locals /\ ¬ Fs cx.fr b := fun b hb => ⟨(hownC b hb).2.2.1, (hownC b hb).2.2.2⟩
   have keep7 : ∀ b, ownP a a2 b -> ∀ o, sE.heap.get? b = some o -> sG.heap.get? b = some o := fun b hb o e =>
    (X67.keep b o e (hapE b hb) (hloc b hb).1).1 (hloc b hb).2
   have again : ∃ m, m < k + 1 /\ ∃ ρ' st' j, Inv g cx ρ' st' sG /\ Ext cx V s.heap ρ' sG.heap /\ qk8 ρ' src j a a2 sG.heap /\ (∀ b, ownP a a2 b -> b ∉ ρ') /\ (noexc (forI tup src tg fb k (i + 1)) stG = forI tup src tg fb m j st') :=
    ⟨k, Nat.lt_succ_self k, VG, stG, i + 1, IG, XX, hsrcE.keep X67.pre (keep7 a (.inl rfl)) (keep7 a2 (.inr rfl)), qp0 (h' := sG.heap) (s := sE) hapE (hsrcE.live hen) (fun x h1 h2 => (X67.fresh x h1 h2).1), hno⟩
   induction x with
   | next => subst hrG; obtain ⟨m, hm, ρ', st', j, r1, r2, r3, r4, r5⟩ := again; exact ⟨m, hm, ρ', st', j, r1, r2, r3, r4, whole.trans r5⟩
   | cont => subst hrG; obtain ⟨m, hm, ρ', st', j, r1, r2, r3, r4, r5⟩ := again; exact ⟨m, hm, ρ', st', j, r1, r2, r3, r4, whole.trans r5⟩
   | brk => subst hrG; exact ⟨.next, stG, VG, whole, rfl, IG, XX⟩
   | ret a => obtain ⟨v', rfl, hv'⟩ := hrG; exact ⟨.ret a, stG, VG, whole, ⟨v', rfl, hv'⟩, IG, XX⟩
theorem xl6 {A : Around} {E : VP} {it t : Addr} {items : Array Value} (hne : t ≠ it) : ∀ (m i : Nat) (s : Shared) (Q : List Value -> Shared -> Prop), s.heap.IsListIter it t i -> s.heap.IsList t items -> i + m <= items.size ->
 (∀ h', h'.IsListIter it t (i + m) -> Heap.SameBut it s.heap h' -> Q ((items.toList.drop i).take m) { s with heap := h' }) -> wpAny (model prog g.w) A (draw (.ref it) m) Q E s
 | 0, i, s, Q, hit, _, _, hQ => by
  show wpAny _ _ (pure []) Q E s
  exact w2z (by simpa using hQ s.heap hit (Heap.SameBut.refl ..))
 | m + 1, i, s, Q, hit, ht, hle, hQ => by
  have hlt : i < items.size := by exact shl0 (by assumption)
  show wpAny _ _ (pyNext (.ref it) >>= _) Q E s
  refine w0z (wpAny_pyNext_list_item hit ht (x := items[i]) (by simp [hlt]) fun h₁ hitA hsA => ?_)
  refine w0z (w8z (xl6 hne m (i + 1) _ _ hitA (ht.extBut hsA.extBut hne) (by exact shl (by assumption)) fun h₂ hitB hsB => w2z ?_))
  have hd : items.toList.drop i = items[i] :: items.toList.drop (i + 1) := by simp [List.drop_eq_getElem_cons, hlt]
  have := hQ h₂ (by rw [show i + (m + 1) = i + 1 + m by exact (Nat.succ_add_eq_add_succ _ _).symm]; exact hitB) (hsA.trans hsB)
  rw [hd, List.take_succ_cons] at this
  exact this
theorem qt7 {A : Around} {E : VP} {s : Shared} {t : Addr} {items : Array Value} {Q : List Value -> Shared -> Prop} (hh : A.handled = none) (ht : s.heap.IsList t items)
 (hQ : ∀ h', Heap.ExtBut s.heap.objs.size s.heap h' -> Q items.toList { s with heap := h' }) : wpAny (model prog g.w) A (unpackItems (.ref t) items.size none) Q E s := by
 have hlt : t ≠ s.heap.objs.size := by obtain ⟨o, ho, _⟩ := ht; exact Nat.ne_of_lt (Heap.lt_size ho)
 unfold unpackItems
 refine w0z ?_
 . unfold notIterableAtAll
   refine w0z (wpAny_specialOf ht.typeIs slot_list_iter.lookup ?_)
   refine w2z ?_
   simp only [Bool.false_eq_true, if_false]
   refine w0z (w8z (wpAny_pyIter_list ht ?_))
   refine w0z (w8z (xl6 hlt items.size 0 _ _ ⟨_, Heap.get?_push_size _ rfl, rfl, rfl⟩ (ht.push _) (by exact Nat.le_of_eq (Nat.zero_add _)) fun h₁ hitA hsA => ?_))
   have hall : List.take items.size (List.drop 0 items.toList) = items.toList := by
    rw [List.drop_zero]; exact List.take_of_length_le (by simp)
   rw [hall]
   rw [if_neg (by simp)]
   have htA : h₁.IsList t items := (ht.push _).extBut hsA.extBut hlt
   refine w0z (w8z (wpAny_pyNext_list_end hh hitA htA (by simp) fun h₂ heB => ?_))
   simp only [Option.isSome_none, Bool.false_eq_true, if_false]
   refine w2z (hQ h₂ fun b o hb e => heB b o hb (hsA.extBut b o hb (w6z _ e)))
noncomputable def xr5 (g : Gl) (prog : Program) (cx : Cx) (n : Nat) : List Expr -> List (AV -> AM Unit) -> Prop
 | [], [] => True
 | t :: r, f :: fr => TgOk g prog cx n t f /\ assignEach (t :: r) cx.env = (false, assign t cx.env) :: assignEach r cx.env /\ xr5 g prog cx n r fr
 | _, _ => False
theorem qi8 : xr5 g prog cx n [] [] := trivial
theorem j6q {t : Expr} {r : List Expr} {f : AV -> AM Unit} {fr : List (AV -> AM Unit)} (h : TgOk g prog cx n t f) (he : assignEach (t :: r) cx.env = (false, assign t cx.env) :: assignEach r cx.env) (h' : xr5 g prog cx n r fr) : xr5 g prog cx n (t :: r) (f :: fr) := ⟨h, he, h'⟩
noncomputable def zo4 : List (AV -> AM Unit) -> List AV -> AM Unit
 | [], [] => AM.ret ()
 | f :: fr, a :: l => (f a).bind fun _ => zo4 fr l
 | _, _ => AM.fail
theorem xr0 : ∀ {ts : List Expr} {fs : List (AV -> AM Unit)} {xs : List AV} {vs : List Value}, xr5 g prog cx n ts fs -> RefX g prog cx n (fun V => reps g.ν V xs vs) qv0 (assignInOrder ((assignEach ts cx.env).map (·.2)) vs) (zo4 fs xs)
 | [], [], [], vs, _ => by
  intro A V st s hA hp I hb
  induction vs with
  | cons => exact hp.elim
  | nil => exact w2z ⟨(), st, V, rfl, trivial, I, Ext.refl _ _ _⟩
 | [], [], _ :: _, _, _ => fun _ _ _ _ _ _ _ hb => absurd rfl hb
 | _ :: _, _ :: _, [], _, _ => fun _ _ _ _ _ _ _ hb => absurd rfl hb
 | [], _ :: _, _, _, h => h.elim
 | _ :: _, [], _, _, h => h.elim
 | t :: r, f :: fr, a :: l, [], h => fun _ _ _ _ _ hp _ _ => hp.elim
 | t :: r, f :: fr, a :: l, v :: vs, h => by
  obtain ⟨h1, h2, h3⟩ := h
  rw [h2]
  refine RefW.toX (T := fun A Q E s => wpAny (model prog g.w) A (assign t cx.env v) (fun _ s₁ => wpAny (model prog g.w) A (assignInOrder ((assignEach r cx.env).map (·.2)) vs) Q E s₁) E s) (fun A Q E s hw => ?_) ?_
  . show wpAny _ A (do holding vs (assign t cx.env v); assignInOrder ((assignEach r cx.env).map (·.2)) vs) Q E s
    exact w0z (w8z hw)
  . refine RefW.nest (xt3 g.ν (a :: l) (v :: vs)) ((h1 a v).weak fun _ h => h.1) fun _ _ => ?_
    exact RefX.toW ((xr0 h3).weak fun _ h => h.1.2)
noncomputable def qd9 (fs : List (AV -> AM Unit)) (a : AV) : AM Unit := match a with
 | .ref i => fun st => match st.H.t.get i with
  | some (.list xs) => match Nat.beq fs.length xs.length with
   | true => zo4 fs xs st
   | false => .bad
  | some (.tuple xs) => match Nat.beq fs.length xs.length with
   | true => zo4 fs xs st
   | false => .bad
  | _ => .bad
 | _ => AM.fail
theorem xm4 : ∀ {ts : List Expr} {fs : List (AV -> AM Unit)}, xr5 g prog cx n ts fs -> (assignEach ts cx.env).length = fs.length /\ (assignEach ts cx.env).findIdx? (·.1) = none
 | [], [], _ => ⟨rfl, rfl⟩
 | [], _ :: _, h => h.elim
 | _ :: _, [], h => h.elim
 | t :: r, f :: fr, h => by
  obtain ⟨h1, h2, h3⟩ := h
  obtain ⟨q1, q2⟩ := xm4 h3
  rw [h2]
  refine ⟨by simp [q1], ?_⟩
  rw [List.findIdx?_cons, q2]
  rfl
set_option tactic.hygienic true in
theorem qd6 {ts : List Expr} {k : Nat} {pos : Pos} {fs : List (AV -> AM Unit)} (hq : cx.q = true) (h : xr5 g prog cx n ts fs) : TgOk g prog cx n (.Tuple ts k pos) (qd9 fs) := by
 intro a u A V st s hA hp I hb
 obtain ⟨q1, q2⟩ := xm4 h
 unfold qd9 at hb ⊢
 obtain ⟨i, rfl⟩ := x7q hb
 dsimp only at hb ⊢
 induction e2 : st.H.t.get i with
 | none => exact q3q (e2 ▸ hb)
 | some ao =>
  rw [e2] at hb
  obtain ⟨x, o, rfl, h1, h2, hr⟩ := I.obj e2 hp
  have grow : ∀ {h' : Heap}, Heap.ExtBut s.heap.objs.size s.heap h' -> Inv g cx V st { s with heap := h' } /\ Ext cx V s.heap V h' := fun {h'} hx =>
   I.grow s.toks fun b o e => hx b o (fun z => by rw [z, z0q] at e; exact q6q e) e
  induction ao <;> try exact q3q hb
  . rename_i xs
    dsimp only at hb ⊢
    induction e3 : Nat.beq fs.length xs.length with
    | false => exact q3q (e3 ▸ hb)
    | true =>
     rw [e3] at hb
     have hlen := Nat.eq_of_beq_eq_true e3
     obtain ⟨vs, n1, hr, rfl⟩ := hr
     have hl : s.heap.IsList x vs.toArray := ⟨_, h2, rfl, n1, rfl⟩
     rw [arm_assign_Tuple]
     refine w0z (wpAny_standAt ?_)
     unfold unpack
     rw [q1, q2, hlen, hr.length]
     refine w0z (w8z ?_)
     have e4 : vs.length = vs.toArray.size := by simp
     rw [e4]
     refine qt7 (hA.quiet hq) hl fun h' hx => ?_
     have G := grow hx
     refine w3z (xr0 h A V st { s with heap := h' } hA hr G.1 hb) ?_ ?_
     . rintro v s' ⟨b, st', ρ', w1, w2, w3, w4⟩
       exact ⟨b, st', ρ', w1, w2, w3, G.2.trans w4⟩
     . rintro v s' ⟨b, st', ρ', w1, w2, w3, w4⟩
       exact ⟨b, st', ρ', w1, w2.mono G.2 w4.pre, w3, G.2.trans w4⟩
  . rename_i xs
    dsimp only at hb ⊢
    induction e3 : Nat.beq fs.length xs.length with
    | false => exact q3q (e3 ▸ hb)
    | true =>
     rw [e3] at hb
     have hlen := Nat.eq_of_beq_eq_true e3
     obtain ⟨vs, n1, hr, rfl⟩ := hr
     have hl : s.heap.IsTuple x vs.toArray := ⟨_, h2, rfl, n1, rfl⟩
     refine wpAny_assign_Tuple (hA.quiet hq) hl (by rw [q1, hlen, hr.length]; simp) q2 fun h' hx => ?_
     have G := grow hx
     refine w3z (xr0 h A V st { s with heap := h' } hA hr G.1 hb) ?_ ?_
     . rintro v s' ⟨b, st', ρ', w1, w2, w3, w4⟩
       exact ⟨b, st', ρ', w1, w2, w3, G.2.trans w4⟩
     . rintro v s' ⟨b, st', ρ', w1, w2, w3, w4⟩
       exact ⟨b, st', ρ', w1, w2.mono G.2 w4.pre, w3, G.2.trans w4⟩
theorem xw5 {elts : List Expr} {k : Nat} {tpos pos : Pos} {value : Expr} {f : AM AV} {tg : AV -> AM Unit} (hs : swapsWithSole [.Tuple elts k tpos] value pos.line cx.env = pure false) (hw : swappedStores [.Tuple elts k tpos] value cx.env = pure none)
 (h : RefE g prog cx n value f) (ht : TgOk g prog cx n (.Tuple elts k tpos) tg) : RefS g prog cx n (.Assign [.Tuple elts k tpos] value pos) (asgM f tg) := by
 refine RefW.toX (fun A Q E s h => PyProof.Rows.Assign_Tuple h hs hw) ?_
 refine RefW.nest Mono.true h fun a u => ?_
 exact RefW.nest (K := fun _ _ (Q : Flow -> Shared -> Prop) _ s => Q .next s) (Mono.and Mono.true (z6q _ _ _)) ((ht a u).weak fun _ h => h.2) fun _ _ => RefW.done fun _ _ => rfl
noncomputable def xi9 (f : AM AV) (px py : AV -> AM Unit) : AM AF := f.bind fun a => match a with
 | .ref i => fun st => match st.H.t.get i with
  | some (.tuple [u, v]) => ((py v).bind fun _ => (px u).bind fun _ => AM.ret .next) st
  | _ => .bad
 | _ => AM.fail
theorem zs6 {elts : List Expr} {k : Nat} {tpos pos : Pos} {value : Expr} {x y : Str} {f : AM AV} {px py : AV -> AM Unit} (hq : cx.q = true) (hs : swapsWithSole [.Tuple elts k tpos] value pos.line cx.env = pure false) (hw : swappedStores [.Tuple elts k tpos] value cx.env = pure (some [x, y]))
 (h : RefE g prog cx n value f) (hx : StOk g prog cx n (storeName cx.env x) px) (hy : StOk g prog cx n (storeName cx.env y) py) : RefS g prog cx n (.Assign [.Tuple elts k tpos] value pos) (xi9 f px py) := by
 refine RefW.toX (fun A Q E s h => PyProof.Rows.Assign_Tuple_swapped h hs hw) ?_
 refine RefW.nest Mono.true h fun a u => ?_
 intro A V st s hA hp I hb Q E hq' he
 obtain ⟨_, hp⟩ := hp
 obtain ⟨i, rfl⟩ := x7q hb
 dsimp only at hb hq' he
 induction e2 : st.H.t.get i with
 | none => exact q3q (e2 ▸ hb)
 | some ao =>
  rw [e2] at hb hq' he
  obtain ⟨z, o, rfl, h1, h2, hr⟩ := I.obj e2 hp
  obtain ⟨xs, rfl⟩ : ∃ xs, ao = .tuple xs := by induction ao <;> first | exact ⟨_, rfl⟩ | exact q3q hb
  obtain ⟨vs, n1, hr, rfl⟩ := hr
  match xs, hr, hb, hq', he with
  | [], _, hb, _, _ => exact q3q hb
  | [_], _, hb, _, _ => exact q3q hb
  | _ :: _ :: _ :: _, _, hb, _, _ => exact q3q hb
  | [p, q], hr, hb, hq', he =>
   obtain ⟨v, w, rfl, -, -⟩ := zk2 hr
   . have hl : s.heap.IsTuple z #[v, w] := ⟨_, h2, rfl, n1, rfl⟩
     refine wpAny_unpackItems_tuple (items := #[v, w]) (hA.quiet hq) hl fun h' hx' => ?_
     have G : Inv g cx V st { s with heap := h' } /\ Ext cx V s.heap V h' := I.grow s.toks fun b o e => hx' b o (fun z => by rw [z, z0q] at e; exact q6q e) e
     show wpAny _ A (do holding [v] (bindName cx.env y w); do holding [] (bindName cx.env x v); pure ()) _ _ _
     have W : RefW g prog cx n (fun V => reps g.ν V [p, q] [v, w]) (repF g.ν) (fun A (Q : Flow -> Shared -> Prop) E s => wpAny (model prog g.w) A (storeName cx.env y w) (fun _ s₁ => wpAny (model prog g.w) A (storeName cx.env x v) (fun _ sB => Q .next sB) E s₁) E s) ((py q).bind fun _ => (px p).bind fun _ => AM.ret .next) := by
      refine RefW.nest (xt3 g.ν [p, q] [v, w]) ((hy q w).weak fun _ h => h.2.1) fun _ _ => ?_
      exact RefW.nest (K := fun _ _ (Q : Flow -> Shared -> Prop) _ s => Q .next s) (Mono.and (xt3 g.ν [p, q] [v, w]) (fun _ _ _ h => h)) ((hx p v).weak fun _ h => h.1.1) fun _ _ => RefW.done fun _ _ => rfl
     have Z := W A V st { s with heap := h' } hA hr G.1 hb Q E (fun f s' r => hq' _ _ (by
      obtain ⟨b, st', ρ', w1, w2, w3, w4⟩ := r
      exact ⟨b, st', ρ', w1, w2, w3, G.2.trans w4⟩)) (fun f s' r => he _ _ (by
      obtain ⟨b, st', ρ', w1, w2, w3, w4⟩ := r
      exact ⟨b, st', ρ', w1, w2.mono G.2 w4.pre, w3, G.2.trans w4⟩))
     exact w0z (w8z (wpAny_bindName (w3z Z (fun _ s₁ h₁ => w0z (w8z (wpAny_bindName (w3z h₁ (fun _ sB h₂ => w2z h₂) fun _ _ e => e)))) fun _ _ e => e)))
inductive ExcTr (h0 : Heap) (V : List Addr) (cx : Cx) (cls : Value) (e : Value) (h : Heap) : Prop
 | mk (a : Addr) (o : Obj) (vs : Array Value) (t : Addr) (ot : Obj) (ts : Array Value) (h1 : e = .ref a) (h2 : h0.get? a = none /\ a ∉ V /\ ¬ Fs cx.fr a /\ a ≠ cx.env.locals) (h3 : h0.get? t = none /\ t ∉ V /\ ¬ Fs cx.fr t /\ t ≠ cx.env.locals) (h4 : t ≠ a)
  (h5 : h.get? a = some o) (h6 : o.cls = cls) (h7 : o.data = .fields vs) (h8 : 6 <= vs.size) (h9 : vs[1]? = some (.ref t)) (h10 : h.get? t = some ot) (h11 : ot.data = .fields ts) (h12 : 4 <= ts.size)
theorem ExcTr.at {h0 : Heap} {V : List Addr} {cls e : Value} {h : Heap} (x : ExcTr h0 V cx cls e h) : ExcAt h0 V cx cls e h := by
 obtain ⟨a, o, vs, t, ot, ts, h1, ⟨a1, a2, a3, a4⟩, ⟨t1, t2, t3, t4⟩, h2, h3, h4, h5, h6, h7, h8, h9, h10⟩ := x
 exact ⟨a, o, vs, h1, a1, a2, a3, a4, h3, h4, h5, h6, .inr ⟨t, ot, ts, h7, t1, t2, h2, t3, t4, h8, h9, h10⟩⟩
inductive CxOkF (fr : List Env) (f : Option Addr) : Prop
 | mk (e0 : Env) (r : List Env) (L : Addr) (h1 : fr = e0 :: r) (h2 : e0.frame = some L) (h3 : f = some L)
noncomputable abbrev CxOk (cx : Cx) : Prop := CxOkF cx.fr cx.env.frame
structure Slid (cx : Cx) (own : Addr -> Prop) (h h' : Heap) : Prop where
 keep : ∀ b o, h.get? b = some o -> ¬ own b -> (¬ Fs cx.fr b -> h'.get? b = some o) /\ ∃ sl, h'.get? b = some { o with slots := sl }
theorem Slid.plain {own : Addr -> Prop} {h h' : Heap} (hk : ∀ b o, h.get? b = some o -> ¬ own b -> h'.get? b = some o) : Slid cx own h h' := ⟨fun b o e nb => ⟨fun _ => hk b o e nb, o.slots, hk b o e nb⟩⟩
theorem Inv.slid {V : List Addr} {st : St} {s : Shared} (I : Inv g cx V st s) {own : Addr -> Prop} {h' : Heap} (tk : Nat) (ho : ∀ b, own b -> g.U.get? b = none /\ b ∉ V /\ b ≠ cx.env.locals /\ ¬ Fs cx.fr b)
 (hk : Slid cx own s.heap h') : Inv g cx V st { s with heap := h', toks := tk } := by
 have hr : ∀ a ∈ V, ∀ o, s.heap.get? a = some o -> h'.get? a = some o := fun a ha o e => (hk.keep a o e fun z => (ho a z).2.1 ha).1 (I.own a ha).2.2
 have hfr : ∀ b, Fs cx.fr b -> g.U.get? b = none := fun b hb => by
  obtain ⟨e, he, hf⟩ := hb
  obtain ⟨_, b', o, es, ep, h1, h2, h3, h4⟩ := I.frs e he
  rw [h1] at hf; obtain rfl := w4z hf; exact h4
 refine ⟨fun b o e => (hk.keep b o (I.base b o e) fun z => ?_).1 fun z => ?_, I.own, I.nodup, fun a ha => ?_, fun i ao e => ?_, I.size, ?_, I.lnew, I.cells, fun e he => ?_, I.gens, I.drawn, I.os, I.tabs⟩
 . rw [(ho b z).1] at e; exact q6q e
 . rw [hfr b z] at e; exact q6q e
 . obtain ⟨o, e⟩ := I.live a ha; exact ⟨o, hr a ha o e⟩
 . obtain ⟨a, o, h1, h2, h3⟩ := I.heap i ao e
   exact ⟨a, o, h1, hr a (w7z h1) o h2, h3⟩
 . obtain ⟨m, ⟨o, es, ep, h1, h2, h3, h4⟩, h5⟩ := I.loc
   obtain ⟨_, sl, e⟩ := hk.keep _ o h1 fun z => (ho _ z).2.2.1 rfl
   exact ⟨m, ⟨_, es, ep, e, h2, h3, h4⟩, h5⟩
 . obtain ⟨h0, b, o, es, ep, h1, h2, h3, h4⟩ := I.frs e he
   obtain ⟨_, sl, e⟩ := hk.keep b o h2 fun z => (ho b z).2.2.2 ⟨_, he, h1⟩
   exact ⟨h0, b, _, es, ep, h1, e, h3, h4⟩
theorem qq1 {V VA : List Addr} {U h h' : Heap} {own : Addr -> Prop} (X : Ext cx V U VA h) (ho : ∀ b, own b -> U.get? b = none) (hk : Slid cx own h h') : Ext cx V U VA h' := by
 refine ⟨X.pre, X.fresh, fun b o e nb nl => ?_⟩
 obtain ⟨k1, sl, k2⟩ := X.keep b o e nb nl
 have nb' : ¬ own b := fun z => by rw [ho b z] at e; exact q6q e
 refine ⟨fun nf => (hk.keep b o (k1 nf) nb').1 nf, ?_⟩
 obtain ⟨_, sl', k3⟩ := hk.keep b _ k2 nb'
 exact ⟨sl', k3⟩
theorem xy4 {A : Around} {E : VP} {V : List Addr} {st : St} {s : Shared} (hC : CxOk cx) (hfr : A.frames = some cx.fr) (I : Inv g cx V st s) {Q : VP}
 (h : ∀ L h', cx.env.frame = some L -> (∀ b, ¬ Fs cx.fr b -> h'.get? b = s.heap.get? b) -> (∀ b o, s.heap.get? b = some o -> ∃ sl, h'.get? b = some { o with slots := sl }) -> Q (.ref L) { s with heap := h' }) : wpAny (model prog g.w) A (PySem.frameOf cx.env) Q E s := by
 obtain ⟨e0, r, L, hc, hf0, hf⟩ := hC
 have FF : ∀ l, (∀ e ∈ l, e ∈ cx.fr) -> s.heap.FunFrames g.U l := by
  intro l
  induction l with
  | nil => intro _; trivial
  | cons e l ih =>
   intro hl
   obtain ⟨hk, b, o, es, ep, h1, h2, h3, h4⟩ := I.frs e (hl e List.mem_cons_self)
   exact ⟨by rw [hk]; decide, ⟨b, o, h1, h4, h2, fun vs q => by rw [h3] at q; cases q⟩, ih fun e he => hl e (w9z _ he)⟩
 unfold PySem.frameOf
 refine w0z (wpAny_frameEnvs hfr ?_)
 have hdw : (cx.fr.dropWhile fun x => x.frame != cx.env.frame) = cx.fr := by
  rw [hc, List.dropWhile_cons, hf0, hf]; simp
 rw [hdw]
 unfold frameObject
 rw [hc]
 refine w0z (w0z (wpAny_readyFrames_fun (base := g.U) (hc ▸ FF cx.fr fun e he => he) fun h₁ hsA => w2z ?_))
 rw [hf0]
 refine w2z (h L h₁ hf (fun b nb => hsA.2.1 b fun hm => nb ?_) hsA.2.2)
 rw [<- hc] at hm
 obtain ⟨e, he, hb⟩ := List.mem_filterMap.mp hm
 exact ⟨e, he, hb⟩
theorem xd4 {A : Around} {E : VP} {V ρ' : List Addr} {st : St} {h0 : Heap} {s : Shared} {cls e : Value} (hC : CxOk cx) (hfr : A.frames = some cx.fr) (I : Inv g cx ρ' st s) (X : Ext cx V h0 ρ' s.heap) (hb0 : ∀ b, h0.get? b = none -> g.U.get? b = none)
 (x : ExcAt h0 ρ' cx cls e s.heap) {Q : Unit -> Shared -> Prop} (h : ∀ s', ExcTr h0 ρ' cx cls e s'.heap -> Inv g cx ρ' st s' -> Ext cx V h0 ρ' s'.heap -> Q () s') : wpAny (model prog g.w) A (noteFrame e cx.env) Q E s := by
 obtain ⟨a, o, vs, rfl, a1, a2, a3, a4, h1, h2, h3, h4, h5⟩ := x
 have hC' := hC
 obtain ⟨e0, r, L, hc, hf0, hf⟩ := hC'
 -- the new entry
 have entry : ∀ (head : Value) (hadNext : Bool) (s : Shared) (o : Obj), Inv g cx ρ' st s -> Ext cx V h0 ρ' s.heap -> s.heap.get? a = some o -> o.cls = cls -> o.data = .fields vs ->
  wpAny (model prog g.w) A (do let x <- PySem.frameOf cx.env; let pl <- entryPlaceOf L hadNext; let b <- EntryCells.newEntry head x .none (rawInt L) .none pl; setField (.ref a) 1 b) Q E s := by
  intro head hadNext s o I X h1 h2 h3
  refine w0z (xy4 hC hfr I fun L' h₁ hL hs1 hs2 => ?_)
  refine w0z (wpAny_entryPlaceOf fun pl hpl => ?_)
  unfold EntryCells.newEntry newFields
  refine w0z (wpAny_newObj_type ?_ (hpl.sizeOk5 _ _ _ _ _))
  have heA : h₁.get? a = some o := (hs1 a a3).trans h1
  have heB := w6z (h := h₁) { cls := .type "traceback", dict := none, data := .fields ([head, .ref L', .none, rawInt L, .none] ++ (if pl.isEmpty then List.replicate 6 Value.none else pl)).toArray } heA
  refine wpAny_setField heB h3 (by omega) ?_
  have hTe : h₁.objs.size ≠ a := Nat.ne_of_gt (Heap.lt_size heA)
  have hdC := Obj.data_mapFields h3 (·.setIfInBounds 1 (Value.ref h₁.objs.size))
  have heC := Heap.get?_update_self (Obj.mapFields (·.setIfInBounds 1 (Value.ref h₁.objs.size))) heB (Obj.isFreed_of_fields hdC)
  have hTC := (Heap.get?_update_other (h₁.push { cls := .type "traceback", dict := none, data := .fields ([head, .ref L', .none, rawInt L, .none] ++ (if pl.isEmpty then List.replicate 6 Value.none else pl)).toArray })
   (Obj.mapFields (·.setIfInBounds 1 (Value.ref h₁.objs.size))) (Ne.symm hTe)).trans (Heap.get?_push_size h₁ rfl)
  have keep : ∀ b o, b ≠ a -> h₁.get? b = some o -> ((h₁.push { cls := .type "traceback", dict := none, data := .fields ([head, .ref L', .none, rawInt L, .none] ++ (if pl.isEmpty then List.replicate 6 Value.none else pl)).toArray }).update a (Obj.mapFields (·.setIfInBounds 1 (Value.ref h₁.objs.size)))).get? b = some o :=
   fun b o hbe hb => by
    rw [Heap.get?_update_other _ _ (Ne.symm hbe)]
    exact w6z _ hb
  have S : Slid cx (· = a) s.heap ((h₁.push { cls := .type "traceback", dict := none, data := .fields ([head, .ref L', .none, rawInt L, .none] ++ (if pl.isEmpty then List.replicate 6 Value.none else pl)).toArray }).update a (Obj.mapFields (·.setIfInBounds 1 (Value.ref h₁.objs.size)))) := by
   refine ⟨fun b o e nb => ⟨fun nf => keep b o nb ((hs1 b nf).trans e), ?_⟩⟩
   obtain ⟨sl, e2⟩ := hs2 b o e
   exact ⟨sl, keep b _ nb e2⟩
  have own : ∀ b, b = a -> g.U.get? b = none /\ b ∉ ρ' /\ b ≠ cx.env.locals /\ ¬ Fs cx.fr b := fun b z => z ▸ ⟨hb0 a a1, a2, a4, a3⟩
  have J := I.slid s.toks own S
  have hsz : s.heap.get? h₁.objs.size = none := by
   induction q : s.heap.get? h₁.objs.size with
   | none => rfl
   | some o =>
    obtain ⟨sl, e2⟩ := hs2 _ o q
    exact absurd (Heap.lt_size e2) (Nat.lt_irrefl _)
  have hsz1 : 1 < vs.size := by omega
  have nn := I.none_of hsz
  have t0 : h0.get? h₁.objs.size = none := X.none hsz (fun z => nn.2.2.2 (X.pre.mem z)) nn.2.1
  refine h _ ⟨a, _, _, h₁.objs.size, _, _, rfl, ⟨a1, a2, a3, a4⟩, ⟨t0, nn.2.2.2, nn.2.2.1, nn.2.1⟩, hTe, heC, (Obj.cls_mapFields _ _).trans h2, hdC, by rw [Array.size_setIfInBounds]; exact h4, by simp [hsz1], hTC, rfl, by simp⟩ J (qq1 (own := (· = a)) X (fun b (z : b = a) => z ▸ a1) S)
 unfold noteFrame
 simp only [hf]
 rcases h5 with q | ⟨t, ot, ts, q1, q2, q3, q4, q5, q6, q7, q8, q9⟩
 . refine w0z (wpAny_field h1 h3 q ?_)
   rw [if_neg (by decide)]
   exact entry _ _ s o I X h1 h2 h3
 . refine w0z (wpAny_field h1 h3 q1 ?_)
   rw [if_pos (show (Value.ref t != Value.none) = true from by simp)]
   have hts : ts[3]? = some ts[3] := by simp
   refine w0z (wpAny_field q7 q8 hts ?_)
   by_cases hq : (ts[3] == rawInt L) = true
   . rw [if_pos hq]
     exact w2z (h s ⟨a, o, vs, t, ot, ts, rfl, ⟨a1, a2, a3, a4⟩, ⟨q2, q3, q5, q6⟩, q4, h1, h2, h3, h4, q1, q7, q8, q9⟩ I X)
   . rw [if_neg hq]
     refine w0z (wpAny_setField q7 q8 (by assumption) ?_)
     have other : ∀ b, b ≠ t -> (s.heap.update t (Obj.mapFields (·.setIfInBounds 3 Value.none))).get? b = s.heap.get? b := fun b hb => Heap.get?_update_other _ _ (Ne.symm hb)
     have S : Slid cx (· = t) s.heap (s.heap.update t (Obj.mapFields (·.setIfInBounds 3 Value.none))) := Slid.plain fun b o e nb => (other b nb).trans e
     have own : ∀ b, b = t -> g.U.get? b = none /\ b ∉ ρ' /\ b ≠ cx.env.locals /\ ¬ Fs cx.fr b := fun b z => z ▸ ⟨hb0 t q2, q3, q6, q5⟩
     have J := I.slid s.toks own S
     exact entry _ _ _ o J (qq1 (own := (· = t)) X (fun b (z : b = t) => z ▸ q2) S) ((other a (Ne.symm q4)).trans h1) h2 h3
theorem qa3 {A : Around} {E : VP} {V ρ' : List Addr} {st : St} {h0 : Heap} {s : Shared} {cls e : Value} {fl : Option Addr} (I : Inv g cx ρ' st s) (X : Ext cx V h0 ρ' s.heap) (hb0 : ∀ b, h0.get? b = none -> g.U.get? b = none)
 (x : ExcTr h0 ρ' cx cls e s.heap) {Q : Unit -> Shared -> Prop} (h : ∀ s', ExcTr h0 ρ' cx cls e s'.heap -> Inv g cx ρ' st s' -> Ext cx V h0 ρ' s'.heap -> Q () s') : wpAny (model prog g.w) A (setFlight e fl) Q E s := by
 obtain ⟨a, o, vs, t, ot, ts, rfl, ⟨a1, a2, a3, a4⟩, ⟨t1, t2, t3, t4⟩, h2, h3, h4, h5, h6, h7, h8, h9, h10⟩ := x
 have other : ∀ b, b ≠ t -> (s.heap.update t (Obj.mapFields (·.setIfInBounds 3 (fl.elim Value.none fun f => rawInt f)))).get? b = s.heap.get? b := fun b hb => Heap.get?_update_other _ _ (Ne.symm hb)
 have S : Slid cx (· = t) s.heap (s.heap.update t (Obj.mapFields (·.setIfInBounds 3 (fl.elim Value.none fun f => rawInt f)))) := Slid.plain fun b o e nb => (other b nb).trans e
 have own : ∀ b, b = t -> g.U.get? b = none /\ b ∉ ρ' /\ b ≠ cx.env.locals /\ ¬ Fs cx.fr b := fun b z => z ▸ ⟨hb0 t t1, t2, t4, t3⟩
 have J := I.slid s.toks own S
 unfold setFlight
 refine w0z (wpAny_field h3 h5 h7 ?_)
 rw [if_pos (show (Value.ref t != Value.none) = true from by simp)]
 refine wpAny_setField h8 h9 (by assumption) (h _ ?_ J (qq1 (own := (· = t)) X (fun b (z : b = t) => z ▸ t1) S))
 exact ⟨a, o, vs, t, _, _, rfl, ⟨a1, a2, a3, a4⟩, ⟨t1, t2, t3, t4⟩, h2, (other a (Ne.symm h2)).trans h3, h4, h5, h6, h7, Heap.get?_update_self _ h8 (Obj.isFreed_of_fields (Obj.data_mapFields h9 _)), Obj.data_mapFields h9 _, by simp; assumption⟩
theorem qe7 {V : List Addr} {st : St} {s : Shared} (I : Inv g cx V st s) : ∀ b, s.heap.get? b = none -> g.U.get? b = none := fun b e => (I.none_of e).1
theorem qw1 {A : Around} {E : VP} {V ρ' : List Addr} {st : St} {h0 : Heap} {s : Shared} {cls e : Value} (hC : CxOk cx) (hfr : A.frames = some cx.fr) (I : Inv g cx ρ' st s) (X : Ext cx V h0 ρ' s.heap) (hb0 : ∀ b, h0.get? b = none -> g.U.get? b = none)
 (x : ExcAt h0 ρ' cx cls e s.heap) {Q : Unit -> Shared -> Prop} (h : ∀ s', ExcTr h0 ρ' cx cls e s'.heap -> Inv g cx ρ' st s' -> Ext cx V h0 ρ' s'.heap -> Q () s') : wpAny (model prog g.w) A (leaving cx.env e) Q E s := by
 unfold leaving
 exact w0z (xd4 hC hfr I X hb0 x fun s' x' I' X' => qa3 I' X' hb0 x' h)
theorem zp2 {A : Around} {E : VP} {V ρ' : List Addr} {st : St} {h0 : Heap} {s : Shared} {cls e : Value} (I : Inv g cx ρ' st s) (X : Ext cx V h0 ρ' s.heap) (hb0 : ∀ b, h0.get? b = none -> g.U.get? b = none)
 (x : ExcTr h0 ρ' cx cls e s.heap) (h : ∀ s', ExcTr h0 ρ' cx cls e s'.heap -> Inv g cx ρ' st s' -> Ext cx V h0 ρ' s'.heap -> E e s') : cameBackBy (model prog g.w) A cx.env E e s := by
 unfold cameBackBy
 have x' := x
 obtain ⟨a, o, vs, t, ot, ts, rfl, _, _, h2, h3, h4, h5, h6, h7, h8, h9, h10⟩ := x'
 refine w0z (wpAny_field h3 h5 h7 ?_)
 rw [if_neg (show ¬ ((Value.ref t == Value.none) = true) from by simp)]
 first
  | exact w0z (w2z (qa3 I X hb0 x h))
  | exact qa3 I X hb0 x h
theorem zk5 {α : Type} {A : Around} {E : VP} {V ρ' : List Addr} {st : St} {h0 : Heap} {s : Shared} {cls e : Value} {what : String} {env : Env} {Q : α -> Shared -> Prop} (I : Inv g cx ρ' st s) (X : Ext cx V h0 ρ' s.heap) (hb0 : ∀ b, h0.get? b = none -> g.U.get? b = none)
 (x : ExcTr h0 ρ' cx cls e s.heap) (h : ∀ s', ExcTr h0 ρ' cx cls e s'.heap -> Inv g cx ρ' st s' -> Ext cx V h0 ρ' s'.heap -> E e s') : wpAny (model prog g.w) A (PySem.passOn what e env) Q E s := by
 unfold PySem.passOn
 have x' := x
 obtain ⟨a, o, vs, t, ot, ts, rfl, _, _, h2, h3, h4, h5, h6, h7, h8, h9, h10⟩ := x'
 refine w0z (wpAny_field h3 h5 h7 ?_)
 rw [if_neg (show ¬ ((Value.ref t == Value.none) = true) from by simp)]
 first
  | exact w0z (qa3 I X hb0 x fun s' a b c => wpAny_throw (h s' a b c))
  | exact w0z (w2z (w0z (qa3 I X hb0 x fun s' a b c => wpAny_throw (h s' a b c))))
noncomputable def y4q : List (Option AV) -> AM (List Nat)
 | [], st => .ok [] st
 | v :: r, st => match Nat.blt st.H.n z5q with
  | true => match y4q r { st with H := st.H.push (.cell v) } with
   | .ok l st' => .ok (st.H.n :: l) st'
   | o => o
  | false => .bad
noncomputable def zc7 (as : List AV) (o : Option Nat) : Option AV := match o with
 | none => none
 | some j => as[j]?
noncomputable def v1q (as : List AV) : List (Option Nat) -> List (Option AV)
 | [] => []
 | o :: r => zc7 as o :: v1q as r
noncomputable def endM (st : St) (o : Out AF) : Out AV := match o with
 | .ok x st' => match x with
  | .ret v => .ok v { st with H := st'.H }
  | .next => .ok .none { st with H := st'.H }
  | _ => .bad
 | .exc k st' => .exc k { st with H := st'.H }
 | .bad => .bad
noncomputable def qd5 (lp cp : List (Option Nat)) (fc : List Nat) (fb : AM AF) (as : List AV) : AM AV := fun st =>
 match y4q (v1q as cp) ⟨st.H, v1q as lp, []⟩ with
 | .ok cel st' => endM st (fb { st' with cel := cel ++ fc })
 | _ => .bad
theorem qv9 : ∀ {vs : List (Option AV)} {st : St}, y4q vs st ≠ .bad -> ∃ cel st', y4q vs st = .ok cel st' /\ st'.loc = st.loc /\ st'.cel = st.cel
 | [], st, _ => ⟨[], st, rfl, rfl, rfl⟩
 | v :: r, st, h => by
  unfold y4q at h ⊢
  induction e : Nat.blt st.H.n z5q with
  | false => rw [e] at h; exact q3q h
  | true =>
   rw [e] at h
   dsimp only at h ⊢
   have hb : y4q r { st with H := st.H.push (.cell v) } ≠ .bad := fun z => h (by rw [z])
   obtain ⟨cel, st', e1, e2, e3⟩ := qv9 hb
   rw [e1]
   exact ⟨_, st', rfl, e2, e3⟩
theorem za5 {cs : List Addr} : ∀ {vs : List (Option AV)} {us : List (Option Value)} {V : List Addr} {st st' : St} {s : Shared} {cel : List Nat}, Inv g cx V st s -> y4q vs st = .ok cel st' -> cs.length = vs.length -> us.length = vs.length ->
 cs.Nodup -> (∀ c ∈ cs, g.U.get? c = none /\ c ∉ V /\ c ≠ cx.env.locals /\ ¬ Fs cx.fr c) -> (∀ (i : Nat) c u, cs[i]? = some c -> us[i]? = some u -> s.heap.IsCell c u) -> (∀ (i : Nat) v u, vs[i]? = some v -> us[i]? = some u -> w5q g.ν V v u) ->
 Inv g cx (V ++ cs) st' s /\ ∀ (i : Nat) c, cs[i]? = some c -> ∃ k, cel[i]? = some k /\ (V ++ cs)[k]? = some c := by
 induction cs with
 | nil =>
  intro vs us V st st' s cel I e hl _ _ _ _ _
  obtain rfl := len0 hl.symm
  obtain ⟨rfl, rfl⟩ := z7q e
  exact ⟨by simpa using I, fun i c h => by simp at h⟩
 | cons c cs ih =>
  intro vs us V st st' s cel I e hl hu hn hf hc hv
  obtain ⟨v, r, rfl⟩ : ∃ v r, vs = v :: r := by
   induction vs with
   | nil => cases hl
   | cons v r => exact ⟨v, r, rfl⟩
  obtain ⟨u, us, rfl⟩ : ∃ u r, us = u :: r := by
   induction us with
   | nil => cases hu
   | cons v r => exact ⟨v, r, rfl⟩
  unfold y4q at e
  induction e1 : Nat.blt st.H.n z5q with
  | false => rw [e1] at e; exact j1q e
  | true =>
   rw [e1] at e
   dsimp only at e
   induction e2 : y4q r { st with H := st.H.push (.cell v) } with
   | bad => rw [e2] at e; exact j1q e
   | exc k x => rw [e2] at e; exact zl1 e
   | ok l st1 =>
    rw [e2] at e
    obtain ⟨rfl, rfl⟩ := z7q e
    obtain ⟨hn1, hn2⟩ := List.nodup_cons.mp hn
    obtain ⟨o, ho, hd⟩ := hc 0 c u rfl rfl
    have hp : Pre V (V ++ [c]) := ⟨[c], rfl⟩
    have J := I.adopt (a := c) (o := o) (ao := .cell v) ho (hf c List.mem_cons_self) ⟨u, (hv 0 v u rfl rfl).mono hp, hd⟩ e1
    obtain ⟨K1, K2⟩ := ih J e2 (Nat.succ.inj hl) (Nat.succ.inj hu) hn2 (fun x hx => by
     obtain ⟨q1, q2, q3⟩ := hf x (w9z _ hx)
     refine ⟨q1, fun z => ?_, q3⟩
     rcases List.mem_append.mp z with z | z
     . exact q2 z
     . rw [List.mem_singleton] at z; exact hn1 (z ▸ hx))
     (fun i x y h1 h2 => hc (i + 1) x y h1 h2) (fun i x y h1 h2 => (hv (i + 1) x y h1 h2).mono hp)
    have eq : V ++ [c] ++ cs = V ++ c :: cs := by simp
    rw [eq] at K1 K2
    refine ⟨K1, fun i x hx => ?_⟩
    induction i with
    | zero =>
     obtain rfl := w4z hx
     refine ⟨st.H.n, rfl, ?_⟩
     rw [I.size]; simp
    | succ i => exact K2 i x hx
theorem jl1 {env : Env} {nm : List Str} {V : List Addr} {st : St} {s : Shared} {h₁ : Heap} {tk : Nat} {q : Bool} {m : Str -> Option Value} {loc : List (Option AV)} (I : Inv g cx V st s) (hL : env.locals = s.heap.objs.size) (hfr : env.frame = some s.heap.objs.size)
 (hk : ∀ b o, s.heap.get? b = some o -> h₁.get? b = some o) (hns : h₁.Ns s.heap.objs.size m) (hloc : ∀ (i : Nat) x, nm[i]? = some x -> w5q g.ν V (loc[i]?).join (m x)) (hkd : env.scope.kind = .function) :
 Inv g ⟨env, nm, [], env :: cx.fr, q⟩ V ⟨st.H, loc, []⟩ { s with heap := h₁, toks := tk } := by
 have hz := I.none_of (z0q s)
 refine ⟨fun b o e => hk b o (I.base b o e), fun b hb => ⟨(I.own b hb).1, fun z => hz.2.2.2 ((show b = s.heap.objs.size from z.trans hL) ▸ hb), fun z => ?_⟩, I.nodup, fun b hb => (I.live b hb).imp fun o e => hk b o e, fun i ao e => I.heap_keep (Pre.refl V) (fun b _ o => hk b o) e, I.size,
  ⟨m, hL.symm ▸ hns, hloc⟩, hL.symm ▸ hz.1, fun i x hx => by simp at hx, fun e he => ?_, I.gens, I.drawn, I.os, I.tabs⟩
 . obtain ⟨e, he, hf⟩ := z
   rcases List.mem_cons.mp he with rfl | he
   . rw [hfr] at hf
     exact hz.2.2.2 ((w4z hf : s.heap.objs.size = b) ▸ hb)
   . exact (I.own b hb).2.2 ⟨e, he, hf⟩
 . rcases List.mem_cons.mp he with rfl | he
   . obtain ⟨o, es, ep, h1, h2, _⟩ := hns
     exact ⟨hkd, _, o, es, ep, hfr, h1, h2, hz.1⟩
   . obtain ⟨h0, b, o, es, ep, h1, h2, h3, h4⟩ := I.frs e he
     exact ⟨h0, b, o, es, ep, h1, hk b o h2, h3, h4⟩
theorem Inv.withCells {env : Env} {nm cn : List Str} {fr : List Env} {q : Bool} {V : List Addr} {st : St} {s : Shared} {cel : List Nat} (I : Inv g ⟨env, nm, [], fr, q⟩ V st s)
 (h : ∀ (i : Nat) x, cn[i]? = some x -> CellAt (env.cells) V cel i x) : Inv g ⟨env, nm, cn, fr, q⟩ V { st with cel := cel } s :=
 ⟨I.base, I.own, I.nodup, I.live, I.heap, I.size, I.loc, I.lnew, h, I.frs, I.gens, I.drawn, I.os, I.tabs⟩
theorem xt7 {cx' : Cx} {V VA ρ' : List Addr} {st st' : St} {s s₁ s' : Shared} (I : Inv g cx V st s) (hk : ∀ b o, s.heap.get? b = some o -> s₁.heap.get? b = some o) (hp : Pre V VA) (hnew : ∀ a ∈ VA, a ∉ V -> s.heap.get? a = none)
 (hL : s.heap.get? cx'.env.locals = none) (hF : ∀ b, Fs cx'.fr b -> b = cx'.env.locals \/ Fs cx.fr b) (hfr : ∀ e ∈ cx.fr, e ∈ cx'.fr) (I' : Inv g cx' ρ' st' s') (X' : Ext cx' VA s₁.heap ρ' s'.heap) :
 Inv g cx ρ' { st with H := st'.H } s' /\ Ext cx V s.heap ρ' s'.heap := by
 have some_of : ∀ {b o}, s.heap.get? b = some o -> b ≠ cx'.env.locals := fun {b o} e q => by rw [q, hL] at e; exact q6q e
 have old : ∀ {b o}, s.heap.get? b = some o -> b ∉ V -> b ∉ VA := fun {b o} e nb q => by rw [hnew b q nb] at e; exact q6q e
 have hF' : ∀ b, Fs cx.fr b -> Fs cx'.fr b := fun b z => by obtain ⟨e, he, hb⟩ := z; exact ⟨e, hfr e he, hb⟩
 have fr0 : ∀ a ∈ ρ', a ∉ V -> s.heap.get? a = none := fun a h1 h2 => by
  by_cases h3 : a ∈ VA
  . exact hnew a h3 h2
  . induction q : s.heap.get? a with
    | none => rfl
    | some o => have := (X'.fresh a h1 h3).1; rw [hk a o q] at this; exact k2q this
 have X : Ext cx V s.heap ρ' s'.heap := by
  refine ⟨hp.trans X'.pre, fun a h1 h2 => ⟨fr0 a h1 h2, (I.none_of (fr0 a h1 h2)).2.1⟩, fun b o e nb nl => ?_⟩
  obtain ⟨k1, k2⟩ := X'.keep b o (hk b o e) (old e nb) (some_of e)
  exact ⟨fun nf => k1 fun z => (hF b z).elim (some_of e) nf, k2⟩
 refine ⟨⟨I'.base, fun a ha => ?_, I'.nodup, I'.live, I'.heap, I'.size, ?_, I.lnew, fun i x hx => ?_, fun e he => I'.frs e (hfr e he), I'.gens, I'.drawn, I'.os, I'.tabs⟩, X⟩
 . obtain ⟨o1, o2, o3⟩ := I'.own a ha
   refine ⟨o1, ?_, fun z => o3 (hF' a z)⟩
   by_cases q : a ∈ V
   . exact (I.own a q).2.1
   . exact (X.fresh a ha q).2
 . obtain ⟨m, ⟨o, es, ep, h1, h2, h3, h4⟩, hm⟩ := I.loc
   obtain ⟨_, sl, e⟩ := X'.keep cx.env.locals o (hk _ o h1) (old h1 fun z => (I.own _ z).2.1 rfl) (some_of h1)
   exact ⟨m, ⟨_, es, ep, e, h2, h3, h4⟩, fun i x hx => (hm i x hx).mono (hp.trans X'.pre)⟩
 . obtain ⟨k, c, h1, h2, h3⟩ := I.cells i x hx
   exact ⟨k, c, h1, h2, (hp.trans X'.pre).get h3⟩
theorem ExcTr.leave {cx' : Cx} {V ρ' : List Addr} {st : St} {s : Shared} {h₁ : Heap} {cls e : Value} {h : Heap} (I : Inv g cx V st s) (hk : ∀ b o, s.heap.get? b = some o -> h₁.get? b = some o) (hfr : ∀ e ∈ cx.fr, e ∈ cx'.fr) (x : ExcTr h₁ ρ' cx' cls e h) : ExcAt s.heap ρ' cx cls e h := by
 have up : ∀ a, h₁.get? a = none -> s.heap.get? a = none := fun a e => by
  induction q : s.heap.get? a with
  | none => rfl
  | some o => rw [hk a o q] at e; exact k2q e
 have hF' : ∀ b, Fs cx.fr b -> Fs cx'.fr b := fun b z => by obtain ⟨e, he, hb⟩ := z; exact ⟨e, hfr e he, hb⟩
 refine ExcTr.at ?_
 obtain ⟨a, o, vs, t, ot, ts, h1, ⟨a1, a2, a3, a4⟩, ⟨t1, t2, t3, t4⟩, h2, h3, h4, h5, h6, h7, h8, h9, h10⟩ := x
 exact ⟨a, o, vs, t, ot, ts, h1, ⟨up a a1, a2, fun z => a3 (hF' a z), (I.none_of (up a a1)).2.1⟩, ⟨up t t1, t2, fun z => t3 (hF' t z), (I.none_of (up t t1)).2.1⟩, h2, h3, h4, h5, h6, h7, h8, h9, h10⟩
noncomputable def ixOf : List Str -> Str -> Option Nat
 | [], _ => none
 | p :: r, x => match p == x with
  | true => some 0
  | false => match ixOf r x with
   | some j => some (j + 1)
   | none => none
theorem qp6 : ∀ {ps : List Str} {x : Str}, x ∉ ps -> ixOf ps x = none
 | [], _, _ => rfl
 | p :: r, x, h => by
  rw [ixOf]
  have : (p == x) = false := beq_eq_false_iff_ne.mpr fun z => h (z ▸ List.mem_cons_self)
  rw [this]
  dsimp only
  rw [qp6 fun z => h (w9z _ z)]
theorem xg6 {kindOf : Str -> Option NameKind} {x : Str} (hx : kindOf x = some .local) : ∀ {ps : List Str} {vs : List Value} (m0 : Str -> Option Value), ps.Nodup -> ps.length = vs.length ->
 bindL kindOf (ps.zip vs) m0 x = match ixOf ps x with | some j => vs[j]? | none => m0 x
 | [], [], m0, _, _ => rfl
 | [], _ :: _, _, _, h => by cases h
 | _ :: _, [], _, _, h => by cases h
 | p :: r, v :: vs, m0, hn, hl => by
  obtain ⟨h1, h2⟩ := List.nodup_cons.mp hn
  show bindL kindOf (r.zip vs) (if kindOf p = some .local then fun y => if y = p then some v else m0 y else m0) x = _
  rw [xg6 hx _ h2 (by simpa using hl), ixOf]
  by_cases q : p = x
  . subst q
    rw [qp6 h1, if_pos hx]
    simp
  . have : (p == x) = false := beq_eq_false_iff_ne.mpr q
    rw [this]
    dsimp only
    induction e : ixOf r x with
    | some j => simp
    | none =>
     dsimp only
     split
     . exact if_neg (Ne.symm q)
     . rfl
theorem xg7 {kindOf : Str -> Option NameKind} {x : Str} (hx : ¬ kindOf x = some .local) : ∀ {ps : List Str} {vs : List Value} (m0 : Str -> Option Value), ps.Nodup -> ps.length = vs.length ->
 bindC kindOf (ps.zip vs) m0 x = match ixOf ps x with | some j => vs[j]? | none => m0 x
 | [], [], m0, _, _ => rfl
 | [], _ :: _, _, _, h => by cases h
 | _ :: _, [], _, _, h => by cases h
 | p :: r, v :: vs, m0, hn, hl => by
  obtain ⟨h1, h2⟩ := List.nodup_cons.mp hn
  show bindC kindOf (r.zip vs) (if kindOf p = some .local then m0 else fun y => if y = p then some v else m0 y) x = _
  rw [xg7 hx _ h2 (by simpa using hl), ixOf]
  by_cases q : p = x
  . subst q
    rw [qp6 h1, if_neg hx]
    simp
  . have : (p == x) = false := beq_eq_false_iff_ne.mpr q
    rw [this]
    dsimp only
    induction e : ixOf r x with
    | some j => simp
    | none =>
     dsimp only
     split
     . rfl
     . exact if_neg (Ne.symm q)
theorem qr2 (as : List AV) : ∀ (l : List (Option Nat)) (i : Nat), (v1q as l)[i]? = (l[i]?).map (zc7 as)
 | [], i => by simp [v1q]
 | o :: r, 0 => by simp [v1q]
 | o :: r, i + 1 => by simpa [v1q] using qr2 as r i
theorem qd3 (as : List AV) : ∀ (l : List (Option Nat)), (v1q as l).length = l.length
 | [] => rfl
 | o :: r => by simp [v1q, qd3 as r]
theorem qo7 {ν : Vl} {V : List Addr} {as : List AV} {vs : List Value} (h : reps ν V as vs) (o : Option Nat) : w5q ν V (zc7 as o) (match o with | some j => vs[j]? | none => none) := by
 induction o with
 | none => trivial
 | some j =>
  show w5q ν V as[j]? vs[j]?
  induction e : as[j]? with
  | none =>
   have : vs[j]? = none := List.getElem?_eq_none (by rw [<- h.length]; exact List.getElem?_eq_none_iff.mp e)
   rw [this]; trivial
  | some a =>
   obtain ⟨v, h1, h2⟩ := h.get e
   rw [h1]; exact h2
noncomputable def xw6 (g : Gl) (prog : Program) (fd : FuncData) (ps : List Str) (bindM : List AV -> AM (List AV)) : Prop := ∀ (cx : Cx) (A : Around) V st s as vs, reps g.ν V as vs -> Inv g cx V st s -> bindM as st ≠ .bad -> ∀ (Q : List (Str × Value) -> Shared -> Prop) (E : VP),
 (∀ as' vs' st₁ VA s₁, bindM as st = .ok as' st₁ -> reps g.ν VA as' vs' -> vs'.length = ps.length -> Inv g cx VA st₁ s₁ -> Ext cx V s.heap VA s₁.heap -> (∀ b o, s.heap.get? b = some o -> s₁.heap.get? b = some o) -> Q (ps.zip vs') s₁) -> wpAny (model prog g.w) A (bindArgs fd ⟨vs, []⟩) Q E s
noncomputable def qf1 (p : Nat) (as : List AV) : AM (List AV) := match Nat.beq as.length p with
 | true => AM.ret as
 | false => AM.fail
theorem y5q {fd : FuncData} {ps : List Str} (h : ∀ vs : List Value, vs.length = ps.length -> ∀ s, BindsTo s fd ⟨vs, []⟩ (ps.zip vs)) : xw6 g prog fd ps (qf1 ps.length) := by
 intro cx A V st s as vs hr I hb Q E hq
 unfold qf1 at hb hq
 induction e : Nat.beq as.length ps.length with
 | false => exact q3q (e ▸ hb)
 | true =>
  rw [e] at hq
  have hl : vs.length = ps.length := hr.length ▸ Nat.eq_of_beq_eq_true e
  exact h vs hl s _ A E Q (hq as vs st V s rfl hr hl I (Ext.refl _ _ _) fun _ _ e => e)
theorem x5q {β γ : Type} {f : AM β} {k : β -> AM γ} {st : St} (h : f.bind k st ≠ .bad) : f st ≠ .bad := fun e => h (by unfold AM.bind; rw [e])
theorem w1q {β γ : Type} {f : AM β} {k : β -> AM γ} {st st' : St} {b : β} (h : f st = .ok b st') : f.bind k st = k b st' := by unfold AM.bind; rw [h]
theorem xf9 {ps nm cn : List Str} {lp cp : List (Option Nat)} {scope : Scope} {V : List Addr} {st : St} {s s₁ : Shared} {as : List AV} {q : Bool} {fn : List Str} {fc : List Nat} {cm m : Str -> Option Value} {env : Env}
 (I : Inv g cx V st s) (hL : env.locals = s.heap.objs.size) (hfr : env.frame = some s.heap.objs.size) (hsc : env.scope = scope) (hkd : scope.kind = .function)
 (hsame : ∃ h' tk, s₁ = { s with heap := h', toks := tk }) (hk : ∀ b o, s.heap.get? b = some o -> s₁.heap.get? b = some o) (hns : s₁.heap.Ns env.locals m)
 (hcell : ∀ x ∈ cn, ∃ c, env.cells.lookup x = some c /\ s₁.heap.IsCell c (cm x) /\ s.heap.objs.size < c) (hapart : ∀ x ∈ cn, ∀ y ∈ cn, ∀ c, env.cells.lookup x = some c -> env.cells.lookup y = some c -> x = y) (hcn : cn.Nodup)
 (hm : ∀ x ∈ nm, w5q g.ν V (zc7 as (ixOf ps x)) (m x)) (hcm : ∀ x ∈ cn, w5q g.ν V (zc7 as (ixOf ps x)) (cm x)) (hlp : nm.map (ixOf ps) = lp) (hcp : cn.map (ixOf ps) = cp)
 (hfree : ∀ (i : Nat) x, fn[i]? = some x -> CellAt (env.cells) V fc i x)
 (hb : y4q (v1q as cp) ⟨st.H, v1q as lp, []⟩ ≠ .bad) :
 ∃ cel st' ρ', y4q (v1q as cp) ⟨st.H, v1q as lp, []⟩ = .ok cel st' /\ Inv g ⟨env, nm, cn ++ fn, env :: cx.fr, q⟩ ρ' { st' with cel := cel ++ fc } s₁ /\ Pre V ρ' /\ ∀ a ∈ ρ', a ∉ V -> s.heap.get? a = none := by
 obtain ⟨h', tk, rfl⟩ := hsame
 obtain ⟨cel, st', e1, e2, e3⟩ := qv9 hb
 have hlen : cp.length = cn.length := by rw [<- hcp, List.length_map]
 have E0 := jl1 (q := q) (tk := tk) (loc := v1q as lp) (nm := nm) I hL hfr hk (hL ▸ hns) (fun i x hx => by
  rw [qr2, <- hlp, List.getElem?_map, hx]
  exact hm x (w7z hx)) (by rw [hsc]; exact hkd)
 have fresh : ∀ c, s.heap.objs.size < c -> s.heap.get? c = none := fun c hc => by
  induction q : s.heap.get? c with
  | none => rfl
  | some o => exact absurd (Heap.lt_size q) (Nat.not_lt.mpr (Nat.le_of_lt hc))
 let cs := cn.map fun x => (env.cells.lookup x).getD 0
 have hcs : ∀ (i : Nat) c, cs[i]? = some c -> ∃ x, cn[i]? = some x /\ env.cells.lookup x = some c /\ h'.IsCell c (cm x) /\ s.heap.objs.size < c := fun i c hi => by
  rw [List.getElem?_map] at hi
  induction q : cn[i]? with
  | none => exact q6q (q ▸ hi)
  | some x =>
   rw [q] at hi
   obtain ⟨c', h1, h2, h3⟩ := hcell x (w7z q)
   rw [Option.map_some, h1] at hi
   obtain rfl := w4z hi
   exact ⟨x, rfl, h1, h2, h3⟩
 obtain ⟨K1, K2⟩ := za5 (cs := cs) (us := cn.map cm) E0 e1 (by rw [qd3, hlen]; simp [cs]) (by rw [qd3, hlen]; simp) (by
  refine List.Pairwise.map _ (R := fun x y => x ≠ y /\ x ∈ cn /\ y ∈ cn) (fun x y hxy z => ?_) ?_
  . obtain ⟨c, h1, _⟩ := hcell x hxy.2.1
    obtain ⟨c', h1', _⟩ := hcell y hxy.2.2
    rw [h1, h1'] at z
    have z' : c = c' := z
    exact hxy.1 (hapart x hxy.2.1 y hxy.2.2 c h1 (z' ▸ h1'))
  . exact List.Pairwise.imp_of_mem (fun {a b} ha hb h => ⟨h, ha, hb⟩) hcn)
  (fun c hc => by
   obtain ⟨i, hi⟩ := List.getElem?_of_mem hc
   obtain ⟨x, h1, h2, h3, h4⟩ := hcs i c hi
   have nn := I.none_of (fresh c h4)
   refine ⟨nn.1, nn.2.2.2, fun z => ?_, fun z => ?_⟩
   . have z' : c = env.locals := z
     rw [hL] at z'; exact absurd (z' ▸ h4) (Nat.lt_irrefl _)
   . obtain ⟨e, he, hf⟩ := z
     rcases List.mem_cons.mp he with rfl | he
     . obtain rfl := w4z (hfr.symm.trans hf); exact Nat.lt_irrefl _ h4
     . exact nn.2.2.1 ⟨e, he, hf⟩)
  (fun i c u h1 h2 => by
   obtain ⟨x, q1, q2, q3, q4⟩ := hcs i c h1
   rw [List.getElem?_map, q1] at h2
   obtain rfl := w4z h2
   exact q3)
  (fun i v u h1 h2 => by
   rw [List.getElem?_map] at h2
   induction q : cn[i]? with
   | none => exact q6q (q ▸ h2)
   | some x =>
    rw [q] at h2
    obtain rfl := w4z h2
    rw [qr2, <- hcp, List.getElem?_map, q] at h1
    obtain rfl := w4z h1
    exact hcm x (w7z q))
 refine ⟨cel, st', V ++ cs, e1, K1.withCells (fun i x hx => ?_), ⟨cs, rfl⟩, fun a ha hn => ?_⟩
 . have hcl : cel.length = cn.length := by
    have : ∀ {vs : List (Option AV)} {st st' : St} {l : List Nat}, y4q vs st = .ok l st' -> l.length = vs.length := by
     intro vs
     induction vs with
     | nil => intro st st' l h; obtain ⟨rfl, rfl⟩ := z7q h; rfl
     | cons v r ih =>
      intro st st' l h
      unfold y4q at h
      induction e : Nat.blt st.H.n z5q with
      | false => exact j1q (e ▸ h)
      | true =>
       rw [e] at h
       dsimp only at h
       induction e2 : y4q r { st with H := st.H.push (.cell v) } with
       | bad => exact j1q (e2 ▸ h)
       | exc k x => exact zl1 (e2 ▸ h)
       | ok l' st1 => rw [e2] at h; obtain ⟨rfl, rfl⟩ := z7q h; simp [ih e2]
    rw [this e1, qd3, hlen]
   by_cases hi : i < cn.length
   . rw [List.getElem?_append_left hi] at hx
     obtain ⟨c, h1, _⟩ := hcell x (w7z hx)
     have hci : cs[i]? = some c := by
      show (cn.map _)[i]? = _
      rw [List.getElem?_map, hx, Option.map_some, h1]; rfl
     obtain ⟨k, q1, q2⟩ := K2 i c hci
     exact ⟨k, c, by rw [List.getElem?_append_left (hcl ▸ hi)]; exact q1, h1, q2⟩
   . rw [List.getElem?_append_right (by exact Nat.le_of_not_lt (by assumption))] at hx
     obtain ⟨k, c, h1, h2, h3⟩ := hfree _ x hx
     exact ⟨k, c, by rw [List.getElem?_append_right (by omega), hcl]; exact h1, h2, Pre.get ⟨cs, rfl⟩ h3⟩
 . rcases List.mem_append.mp ha with z | z
   . exact absurd z hn
   . obtain ⟨i, hi⟩ := List.getElem?_of_mem z
     obtain ⟨x, h1, h2, h3, h4⟩ := hcs i a hi
     exact fresh a h4
noncomputable def qc1 (g : Gl) (prog : Program) (d : Nat) (u : Value) (F : List AV -> AM AV) : Prop :=
 ∀ cx n, d <= n -> cx.q = true -> ∀ as vs A V st s, AOk cx n A -> reps g.ν V as vs -> Inv g cx V st s -> F as st ≠ .bad ->
  codeAny (model prog g.w) A (.call u ⟨vs, []⟩) (fun r s' => match r with | .ok (.ret v) => QOk g cx V s (repV g.ν) (F as st) v s' | .ok _ => False | .error e => EOk g cx V s (F as st) e s') s
theorem qc1.ok {d : Nat} {u : Value} {F : List AV -> AM AV} (h : qc1 g prog d u F) : FnOk g prog d u F :=
 fun cx n hd hq as vs A V st s hA hp I hb => wpAny_call (h cx n hd hq as vs A V st s hA hp I hb)
theorem y8q (G : GOk g) {a : Addr} {o : Obj} {fd : FuncData} {body : List Stmt} {ps nm cn : List Str} {lp cp : List (Option Nat)} {m : Nat} {fb : AM AF} {bindM : List AV -> AM (List AV)}
 (ho : g.U.get? a = some o) (hd : o.data = .func fd) (hcd : g.U.CodeRec fd.code fd.qualname) (hbody : fd.body = .stmts body) (hclo : fd.closure = [])
 (hbd : xw6 g prog fd ps bindM) (hnl : ∀ x ∈ nm, fd.scope.names.lookup x = some .local) (hnc : ∀ x ∈ cn, fd.scope.names.lookup x = some .cell)
 (hps : ∀ x ∈ ps, fd.scope.names.lookup x = some .local \/ (fd.scope.names.lookup x = some .cell /\ x ∈ (cellsFrom 0 fd.scope.names []).map (·.1))) (hcl : ∀ x ∈ cn, x ∈ (cellsFrom 0 fd.scope.names []).map (·.1))
 (hn : ps.Nodup) (hcn : cn.Nodup) (hlp : nm.map (ixOf ps) = lp) (hcp : cn.map (ixOf ps) = cp)
 (hco : fd.scope.isCoroutine = false) (hgen : fd.scope.isGenerator = false) (hkd : fd.scope.kind = .function)
 (hb : ∀ L fr, RefB g prog ⟨callEnvC fd L a, nm, cn, callEnvC fd L a :: fr, true⟩ m body fb) : qc1 g prog (m + 1) (.ref a) (fun as => (bindM as).bind (qd5 lp cp [] fb)) := by
 intro cx n hd1 hq as vs A V st s hA hp I hbad
 dsimp only at hbad ⊢
 have mem_lookup : ∀ k x, x ∈ (cellsFrom 0 fd.scope.names []).map (·.1) -> ∃ c, (cellsFrom k fd.scope.names []).lookup x = some c := by
  intro k x hx
  rw [cellsFrom_names fd.scope.names 0 k [] [] rfl] at hx
  have : ∀ (l : List (Str × Addr)), x ∈ l.map (·.1) -> ∃ c, l.lookup x = some c := by
   intro l
   induction l with
   | nil => intro h; cases h
   | cons e l ih =>
    intro h
    obtain ⟨k, v⟩ := e
    rw [List.lookup_cons]
    induction q : x == k with
    | true => exact ⟨v, rfl⟩
    | false =>
     rcases List.mem_cons.mp h with z | z
     . have z' : x = k := z
       rw [z'] at q; simp at q
     . exact ih z
  exact this _ hx
 refine codeAny_call_function (by have := hA.depth; have : recursionLimit = 1000 := rfl; exact xr1 (by assumption)) (I.base a o ho) hd hco hgen hbody (hcd.keeps I.base) ?_
 refine hbd cx A.in1 V st s as vs hp I (x5q hbad) _ _ fun as' vs' st₁ VA s₁ eA hrA hlA I₁ XA hkA => ?_
 rw [w1q eA] at hbad ⊢
 rw [hclo]
 refine wpAny_newFunctionEnv_cells hkd (fun x hx => ?_) fun env he sB x => ?_
 . rcases hps x.1 (List.of_mem_zip hx).1 with h | ⟨h1, h2⟩
   . exact .inl h
   . obtain ⟨c, hc⟩ := mem_lookup (s₁.heap.objs.size + 1) x.1 h2
     exact .inr ⟨h1, by rw [hc]; rfl⟩
 . have he' : env = callEnvC fd s₁.heap.objs.size a := he
   have hkk : ∀ y, env.kindOf y = fd.scope.names.lookup y := fun y => by rw [he']; rfl
   have hb1 : y4q (v1q as' cp) ⟨st₁.H, v1q as' lp, []⟩ ≠ .bad := fun z => hbad (by unfold qd5; rw [z])
   have EN := xf9 (q := true) (ps := ps) (nm := nm) (cn := cn) (lp := lp) (cp := cp) (scope := fd.scope) (fn := []) (fc := []) (s₁ := sB) (as := as')
    I₁ (env := env) (by rw [he']; rfl) (by rw [he']; rfl) (by rw [he']; rfl) hkd x.toInCall.same x.toInCall.keep x.toInCall.ns
    (fun y hy => by
     obtain ⟨c, hc⟩ := mem_lookup (s₁.heap.objs.size + 1) y (hcl y hy)
     have hc' : env.cells.lookup y = some c := by rw [he']; exact hc
     refine ⟨c, hc', x.cell y c hc', ?_⟩
     have := x.above y c (mem_of_lookup hc')
     rw [he'] at this; exact this)
    (fun y _ z _ c h1 h2 => name_of_addr x.apart (mem_of_lookup h1) (mem_of_lookup h2)) hcn
    (fun y hy => by
     rw [xg6 (by rw [hkk]; exact hnl y hy) _ hn hlA.symm]
     exact qo7 hrA _)
    (fun y hy => by
     rw [xg7 (by rw [hkk, hnc y hy]; decide) _ hn hlA.symm]
     exact qo7 hrA _) hlp hcp (fun i y hy => by simp at hy) hb1
   obtain ⟨cel, stB, VB, eB, IB, hpre, hnew⟩ := EN
   rw [List.append_nil] at IB
   refine ⟨(G.nl.keeps I.base).keeps fun b o e => x.toInCall.keep b o (hkA b o e), codeAny_func ?_⟩
   have hA' : AOk ⟨env, nm, cn, env :: cx.fr, true⟩ m (A.deeper env) :=
    ⟨by show (A.frames.map _) = _; rw [hA.frames]; rfl, by have := hA.depth; show A.depth + 1 + m <= 900; exact zg8 (by assumption) (by assumption), by have := hA.units; show A.units + 3 + 10 * m <= 9000; exact za8 (by assumption) (by assumption), fun _ => hA.quiet hq⟩
   have hcall : qd5 lp cp [] fb as' st₁ = endM st₁ (fb { stB with cel := cel ++ [] }) := by unfold qd5; rw [eB]
   rw [hcall] at hbad ⊢
   have hfb : fb { stB with cel := cel ++ [] } ≠ .bad := fun z => hbad (by rw [z]; rfl)
   have hLn : s₁.heap.get? env.locals = none := by rw [he']; exact z0q s₁
   have hF : ∀ b, Fs (env :: cx.fr) b -> b = env.locals \/ Fs cx.fr b := fun b z => by
    obtain ⟨e, he2, hf⟩ := z
    rcases List.mem_cons.mp he2 with rfl | he2
    . rw [he'] at hf ⊢; exact .inl (w4z hf).symm
    . exact .inr ⟨e, he2, hf⟩
   have hfrs : ∀ e ∈ cx.fr, e ∈ env :: cx.fr := fun e he => w9z _ he
   have body := hb s₁.heap.objs.size cx.fr
   rw [<- he'] at body
   refine w3z (body _ VB _ sB hA' trivial IB hfb) ?_ ?_
   . rintro fl s' ⟨y, st', ρ', e, hr, I', X'⟩
     rw [e] at hbad ⊢
     obtain ⟨J, X⟩ := xt7 (cx := cx) (cx' := ⟨env, nm, cn, env :: cx.fr, true⟩) I₁ x.toInCall.keep hpre hnew hLn hF hfrs I' X'
     induction y with
     | next => subst hr; exact ⟨.none, _, ρ', rfl, rfl, J, XA.trans X⟩
     | brk => exact q3q hbad
     | cont => exact q3q hbad
     | ret v => obtain ⟨u, rfl, hu⟩ := hr; exact ⟨v, _, ρ', rfl, hu, J, XA.trans X⟩
   . rintro e s' ⟨k, st', ρ', e', hx, I', X'⟩
     rw [e'] at hbad ⊢
     refine qw1 (cx := ⟨env, nm, cn, env :: cx.fr, true⟩) ⟨env, cx.fr, s₁.heap.objs.size, rfl, by rw [he']; rfl, by rw [he']; rfl⟩ hA'.frames I' X' (qe7 IB) hx fun sC xC IC XC => ?_
     obtain ⟨J, X⟩ := xt7 (cx := cx) (cx' := ⟨env, nm, cn, env :: cx.fr, true⟩) I₁ x.toInCall.keep hpre hnew hLn hF hfrs IC XC
     exact ⟨k, _, ρ', rfl, (xC.leave (cx := cx) I₁ x.toInCall.keep hfrs).mono XA X.pre, J, XA.trans X⟩
theorem xs5 {A : Around} {E Q : VP} {s : Shared} {V : List Addr} {src : Src} {k : Nat} {a a2 : Addr} (hne : (∃ d m ep, src = .items d m ep) -> False) (x : qk8 V src k a a2 s.heap) (h : Q (.ref a) s) : wpAny (model prog g.w) A (pyIter (.ref a)) Q E s := by
 induction src with
 | list i => obtain ⟨l, q1, q2⟩ := x; exact wpAny_pyIter_listiter q2 h
 | tuple i => obtain ⟨l, q1, q2⟩ := x; exact wpAny_pyIter_tupleiter q2 h
 | range m => obtain ⟨l, q1, q2⟩ := x; exact wpAny_pyIter_rangeiter q2 h
 | chars m =>
  obtain ⟨t, q1⟩ := x
  induction hw : (⟨m.toArray⟩ : Str).cps.all (· < 128) with
  | true =>
   have eT : strIterType ⟨m.toArray⟩ = "str_ascii_iterator" := by unfold strIterType; rw [if_pos hw]
   rw [eT] at q1
   exact wpAny_pyIter_striter_ascii q1 h
  | false =>
   have eT : strIterType ⟨m.toArray⟩ = "str_iterator" := by unfold strIterType; rw [if_neg (by rw [hw]; exact Bool.false_ne_true)]
   rw [eT] at q1
   exact wpAny_pyIter_striter_wide q1 h
 | keys d m ep => obtain ⟨l, q1, q2⟩ := x; exact wpAny_pyIter_keyiter q2 h
 | vals d m ep => obtain ⟨l, q1, q2⟩ := x; exact wpAny_pyIter_valiter q2 h
 | items d m ep => exact (hne ⟨d, m, ep, rfl⟩).elim
 | enum i => obtain ⟨l, old, q1, q2, q3, q4⟩ := x; exact wpAny_pyIter_enum q3 h
noncomputable def qb5 (tup : Bool) (src : Src) (tg : AV -> AM Unit) (test : AM Bool) (emit : AM Unit) (K : Nat) : Nat -> AM Unit := Nat.rec (motive := fun _ => Nat -> AM Unit) (fun _ => AM.fail) (fun _ ih i => (qj3 tup src i).bind fun r =>
 Option.rec (motive := fun _ => AM Unit) (AM.ret ()) (fun v => (tg v).bind fun _ => test.bind fun b => Bool.rec (motive := fun _ => AM Unit) (ih (Nat.succ i)) (emit.bind fun _ => ih (Nat.succ i)) b) r) K
noncomputable def xh4 (g : Gl) (prog : Program) (cx : Cx) (n : Nat) (ifs : List Expr) (f : AM Bool) : Prop :=
 RefX g prog cx n TT eqR (forIn ifs true fun c r => if r = true then do let ok <- isTrue c cx.env (eval c cx.env); pure (ForInStep.yield ok) else pure (ForInStep.yield r)) f
theorem v7q : xh4 g prog cx n [] (AM.ret true) := fun _ V st s _ _ I _ => wpAny_tests_nil ⟨true, st, V, rfl, rfl, I, Ext.refl _ _ _⟩
theorem zi8 {c : Expr} {f : AM Bool} (h : RefT g prog cx n c f) : xh4 g prog cx n [c] f := RefX.of_wp (fun _ _ _ _ h => wpAny_tests_one h) h
noncomputable def qy1 (e : Expr) (depth : Nat) (target : Expr) (ifs : List Expr) (acc : Value) (env : Env) (EMIT : Sem Unit) : Prop := ∀ it, ∃ p : Pos, compTurn e depth it acc env = (do
 standAt p
 match <- pyNext it with
 | none => pure (.done .next)
 | some v =>
  letOwnedTupleGo target it v
  assign target env v
  let mut ok := true
  for c in ifs do
   if ok then ok <- isTrue c env (eval c env)
  if ok then
   EMIT
  again (.compLoop e depth it acc env))
noncomputable def jg0 (g : Gl) (cx : Cx) (V : List Addr) (h0 : Heap) (o : Out Unit) (r : Result) (s' : Shared) : Prop := match r with
 | .ok _ => ∃ st' ρ', o = .ok () st' /\ Inv g cx ρ' st' s' /\ Ext cx V h0 ρ' s'.heap
 | .error e => ∃ k st' ρ', o = .exc k st' /\ ExcTr h0 ρ' cx (qx5 k) e s'.heap /\ Inv g cx ρ' st' s' /\ Ext cx V h0 ρ' s'.heap
theorem xl7 {e : Expr} {depth : Nat} {target : Expr} {ifs : List Expr} {acc : Value} {EMIT : Sem Unit} {tup : Bool} {src : Src} {tg : AV -> AM Unit} {ft : AM Bool} {fe : AM Unit} {P : List Addr -> Prop} (hP : Mono P) (hC : CxOk cx) (hq : cx.q = true)
 (htup : tup = true -> ∃ elts x p, target = .Tuple elts x p) (hquiet : ∀ it acc env, (Code.compLoop e depth it acc env).quiet = true)
 (hden : ∀ (A : Around) it acc env, (A.under (.compLoop e depth it acc env)) = A /\ (model prog g.w).den (.compLoop e depth it acc env) = (compTurn e depth it acc env).onRaise fun x => do noteFrame x env; theTreesLotGoes x)
 (hturn : qy1 e depth target ifs acc cx.env EMIT) (h3 : TgOk g prog cx n target tg) (h4 : xh4 g prog cx n ifs ft) (h5 : RefX g prog cx n P qv0 EMIT fe)
 {A : Around} {V : List Addr} {h0 : Heap} {a a2 : Addr} (hA : AOk cx n A) (hown : ∀ b, ownP a a2 b -> h0.get? b = none /\ g.U.get? b = none /\ b ≠ cx.env.locals /\ ¬ Fs cx.fr b) (hen : zf3 src = true \/ a2 = a) (hb0 : ∀ b, h0.get? b = none -> g.U.get? b = none) (K : Nat) {i₀ : Nat} {stO : St} {VO : List Addr} {sO : Shared}
 (hp : P VO) (IO : Inv g cx VO stO sO) (XO : Ext cx V h0 VO sO.heap) (SO : qk8 VO src i₀ a a2 sO.heap) (hapO : ∀ b, ownP a a2 b -> b ∉ VO) (hb : qb5 tup src tg ft fe K i₀ stO ≠ .bad) :
 codeAny (model prog g.w) A (.compLoop e depth (.ref a) acc cx.env) (jg0 g cx V h0 (qb5 tup src tg ft fe K i₀ stO)) sO := by
 have extE : ∀ {VA : List Addr} {st₁ : St} {s₁ : Shared} {β : Type} {o : Out β} {k : AM Unit} {x : Value} {s' : Shared} (w : Out Unit), Inv g cx VA st₁ s₁ -> Ext cx V h0 VA s₁.heap -> EOk g cx VA s₁ o x s' -> (∀ kx st', o = .exc kx st' -> w = .exc kx st') ->
  notedBy (model prog g.w) A cx.env (fun e s' => jg0 g cx V h0 w (.error e) s') x s' := by
  intro VA st₁ s₁ β o k x s' w I₁ XA hE hw
  obtain ⟨kx, st', ρ', e, hx, I', X'⟩ := hE
  exact xd4 hC hA.frames I' (XA.trans X') hb0 (hx.mono XA X'.pre) fun s'' a b c => ⟨kx, st', ρ', hw kx st' e, a, b, c⟩
 refine codeAny_loop (hquiet _ _ _) (fun k s' => ∃ ρ' st' i, P ρ' /\ Inv g cx ρ' st' s' /\ Ext cx V h0 ρ' s'.heap /\ qk8 ρ' src i a a2 s'.heap /\ (∀ b, ownP a a2 b -> b ∉ ρ') /\ qb5 tup src tg ft fe K i₀ stO = qb5 tup src tg ft fe k i st') (fun k sC hI => ?_) K
  ⟨VO, stO, i₀, hp, IO, XO, SO, hapO, rfl⟩
 obtain ⟨VC, stC, i, hpC, IC, XC, hsrcC, hap, e₃⟩ := hI
 rw [(hden A (.ref a) acc cx.env).1, (hden A (.ref a) acc cx.env).2]
 induction k with
 | zero => exact absurd (e₃.trans rfl) hb
 | succ k =>
  have hb' := e₃ ▸ hb
  refine wpAny_noted ?_
  obtain ⟨p, ht⟩ := hturn (.ref a)
  rw [ht]
  refine w0z (wpAny_standAt ?_)
  have hb3 : qj3 tup src i stC ≠ .bad := x5q (f := qj3 tup src i) hb'
  have hownC : ∀ b, ownP a a2 b -> g.U.get? b = none /\ b ∉ VC /\ b ≠ cx.env.locals /\ ¬ Fs cx.fr b := fun b hb => ⟨(hown b hb).2.1, hap b hb, (hown b hb).2.2⟩
  have hnone : ∀ b, ownP a a2 b -> h0.get? b = none := fun b hb => (hown b hb).1
  have XC' : Ext cx V h0 VC sC.heap := XC
  have turnX : ∀ {VB : List Addr} {h₂ : Heap}, Pre VC VB -> (∀ x ∈ VB, x ∉ VC -> sC.heap.get? x = none) -> (∀ b o, sC.heap.get? b = some o -> b ≠ a -> b ≠ a2 -> h₂.get? b = some o) -> Ext cx V h0 VB h₂ := by
   intro VB h₂ hp hf hk
   exact xf7 (s := { sC with heap := h0 }) XC' IC hnone hp hf hk
  refine w0z (w3z (zd1 (target := target) hq htup hA IC hownC hsrcC hb3 (fun _ _ => False)) ?_ (fun _ _ z => z.elim))
  intro r sD h₄
  induction r with
  | none =>
   obtain ⟨eD, h', tk, rfl, hk⟩ := h₄
   have ID := qv3 IC hownC tk hk
   refine w2z ⟨stC, VC, ?_, ID, turnX (Pre.refl VC) (fun x h1 h2 => absurd h1 h2) hk⟩
   rw [e₃]
   exact w1q eD
  | some v =>
   skip
   refine w0z (w3z h₄ ?_ (fun _ _ z => z.elim))
   rintro _ sE ⟨c, st₅, VE, eE, hv, IE, hsrcE, hpE, hfE, hkE⟩
   have XE := turnX hpE hfE hkE
   have hapE := qp0 (h' := sE.heap) hap (hsrcC.live hen) hfE
   have fE : qb5 tup src tg ft fe (k + 1) i stC = ((tg c).bind fun _ => ft.bind fun b => Bool.rec (motive := fun _ => AM Unit) (qb5 tup src tg ft fe k (i + 1)) (fe.bind fun _ => qb5 tup src tg ft fe k (i + 1)) b) st₅ := w1q eE
   rw [fE] at hb'
   refine w0z (w3z (h3 c v A VE st₅ sE hA hv IE (x5q hb')) ?_ fun x s' hE => extE (k := AM.ret ()) _ IE XE hE fun kx st' z => by rw [e₃, fE]; unfold AM.bind; rw [z])
   rintro _ sF ⟨_, st₆, VF, eF, _, IF, XF⟩
   have fF := w1q (k := fun _ => ft.bind fun b => Bool.rec (motive := fun _ => AM Unit) (qb5 tup src tg ft fe k (i + 1)) (fe.bind fun _ => qb5 tup src tg ft fe k (i + 1)) b) eF
   rw [fF] at hb'
   refine w0z (w3z (h4 A VF st₆ sF hA trivial IF (x5q hb')) ?_ fun x s' hE => extE (k := AM.ret ()) _ IF (XE.trans XF) hE fun kx st' z => by rw [e₃, fE, fF]; unfold AM.bind; rw [z])
   rintro ok sG ⟨b, stG, VG, eG, hrG, IG, XG⟩
   cases hrG
   have fG := w1q (k := fun b => Bool.rec (motive := fun _ => AM Unit) (qb5 tup src tg ft fe k (i + 1)) (fe.bind fun _ => qb5 tup src tg ft fe k (i + 1)) b) eG
   rw [fG] at hb'
   have X67 := XF.trans XG
   have PG : P VG := hP _ _ (hpE.trans X67.pre) hpC
   have hloc : ∀ b, ownP a a2 b -> b ≠ cx.env.locals /\ ¬ Fs cx.fr b := fun b hb => (hown b hb).2.2
   have fin : ∀ {sH : Shared} {stH : St} {VH : List Addr}, P VH -> Inv g cx VH stH sH -> Ext cx VE sE.heap VH sH.heap -> qb5 tup src tg ft fe K i₀ stO = qb5 tup src tg ft fe k (i + 1) stH ->
    (∃ m, m < k + 1 /\ ∃ ρ' st' j, P ρ' /\ Inv g cx ρ' st' sH /\ Ext cx V h0 ρ' sH.heap /\ qk8 ρ' src j a a2 sH.heap /\ (∀ b, ownP a a2 b -> b ∉ ρ') /\ qb5 tup src tg ft fe K i₀ stO = qb5 tup src tg ft fe m j st') := by
    intro sH stH VH PH IH XH eH
    have keep : ∀ b, ownP a a2 b -> ∀ o, sE.heap.get? b = some o -> sH.heap.get? b = some o := fun b hb o e => (XH.keep b o e (hapE b hb) (hloc b hb).1).1 (hloc b hb).2
    exact ⟨k, Nat.lt_succ_self k, VH, stH, i + 1, PH, IH, XE.trans XH, hsrcE.keep XH.pre (keep a (.inl rfl)) (keep a2 (.inr rfl)), qp0 (h' := sH.heap) (s := sE) hapE (hsrcE.live hen) (fun x h1 h2 => (XH.fresh x h1 h2).1), eH⟩
   induction ok with
   | false =>
    simp only [Bool.false_eq_true, if_false]
    exact w2z ⟨rfl, fin PG IG X67 (e₃.trans (fE.trans (fF.trans fG)))⟩
   | true =>
    simp only [if_true]
    skip
    refine w0z (w3z (h5 A VG stG sG hA PG IG (x5q hb')) ?_ fun x s' hE => extE (k := AM.ret ()) _ IG (XE.trans X67) hE fun kx st' z => by rw [e₃, fE, fF, fG]; show (fe.bind _) stG = _; unfold AM.bind; rw [z])
    rintro _ sH ⟨_, stH, VH, eH, _, IH, XH⟩
    have fH := w1q (k := fun _ => qb5 tup src tg ft fe k (i + 1)) eH
    exact w2z ⟨rfl, fin (hP _ _ XH.pre PG) IH (X67.trans XH) (e₃.trans (fE.trans (fF.trans (fG.trans fH))))⟩
structure CodeIs (g : Gl) (prog : Program) (e : Expr) (depth : Nat) : Prop where
 quiet : ∀ it acc env, (Code.compLoop e depth it acc env).quiet = true
 quietS : ∀ it acc env, (Code.compStart e depth it acc env).quiet = true
 den : ∀ (A : Around) it acc env, (A.under (.compLoop e depth it acc env)) = A /\ (model prog g.w).den (.compLoop e depth it acc env) = (compTurn e depth it acc env).onRaise fun x => do noteFrame x env; theTreesLotGoes x
 denS : ∀ (A : Around) it acc env, (A.under (.compStart e depth it acc env)) = A /\ ∃ p : Pos, (model prog g.w).den (.compStart e depth it acc env) = (compStart e depth it acc env).onRaise fun x => do noteFrame x env; standAt p
theorem qb6 {A : Around} {s : Shared} {R : Result -> Shared -> Prop} {e : Expr} {depth : Nat} {gc : Comprehension} {it acc : Value} {env : Env} (hcd : CodeIs g prog e depth) (hg : (clausesOf e)[depth]? = some gc) (ha : (gc.is_async != 0) = false)
 (h0 : codeAny (model prog g.w) A (.compLoop e depth it acc env) R s)
 (h : wpAny (model prog g.w) A (pyIter it) (fun it' s' => codeAny (model prog g.w) A (.compLoop e depth it' acc env) R s') (notedBy (model prog g.w) A env fun x s' => R (.error x) s') s) :
 codeAny (model prog g.w) A (.compStart e depth it acc env) R s := by
 refine codeAny_of_tree ?_
 obtain ⟨e1, p, e2⟩ := hcd.denS A it acc env
 rw [e1, e2]
 refine wpAny_notedAt ?_
 unfold compStart
 rw [hg]
 rw [if_neg (c := ((some gc).elim false fun x : Comprehension => x.is_async != 0) = true) (fun z => by have z' : (gc.is_async != 0) = true := z; rw [ha] at z'; cases z')]
 show wpAny _ _ (ask >>= _) _ _ s
 refine w0z (wpAny_askSetting (wpAny_ite ?_))
 have q : ∀ it, (Code.compLoop e depth it acc env).quiet = true := fun it => hcd.quiet it acc env
 split
 . first
    | exact w0z (w2z (w2z (And.intro (q _) h0)))
    | exact w2z (And.intro (q _) h0)
 . first
    | exact w0z (wpAny_rule (w0z (wpAny_standAt (w0z (w3z h (fun it' s' h' => w2z (And.intro (q _) h')) fun _ _ x => x)))))
    | (refine w0z (wpAny_rule ?_); show wpAny _ _ (standAt _ >>= _) _ _ s; exact w0z (wpAny_standAt (w0z (w3z h (fun it' s' h' => w2z (And.intro (q _) h')) fun _ _ x => x))))
noncomputable def qh8 : Src -> Bool
 | .items _ _ _ => false
 | _ => true
theorem xb2 {src : Src} (h : qh8 src = true) : (∃ d m ep, src = .items d m ep) -> False := by
 rintro ⟨d, m, ep, rfl⟩; exact j7q h
theorem xz0 {e : Expr} {depth : Nat} {gc : Comprehension} {iter target : Expr} {ifs : List Expr} {acc : Value} {EMIT : Sem Unit} {tup : Bool} {tg : AV -> AM Unit} {ft : AM Bool} {fe : AM Unit} {fi : AM Src} {P : List Addr -> Prop} (hP : Mono P) (hC : CxOk cx) (hq : cx.q = true) (K : Nat) (hcd : CodeIs g prog e depth)
 (hg : (clausesOf e)[depth]? = some gc) (ha : (gc.is_async != 0) = false) (htup : tup = true -> ∃ elts x p, target = .Tuple elts x p) (hs : ∀ x, foldedSetIterable iter cx.env x = pure x)
 (hi : RefI g prog cx n iter fi) (hturn : qy1 e depth target ifs acc cx.env EMIT) (h3 : TgOk g prog cx n target tg) (h4 : xh4 g prog cx n ifs ft) (h5 : RefX g prog cx n P qv0 EMIT fe) (p : Pos) :
 RefX g prog cx n P qv0 (do
  let x <- eval iter cx.env
  standAt p
  let x <- foldedSetIterable iter cx.env x
  let _ <- runOwn (.compStart e depth (<- holding [x] (pyIter x)) acc cx.env) cx.env) (fi.bind fun src => match qh8 src with | true => qb5 tup src tg ft fe K 0 | false => AM.fail) := by
 intro A V st s hA hp I hb
 have hb1 := x5q hb
 have hE : ∀ v s', EOk g cx V s (fi st) v s' -> EOk g cx V s ((fi.bind fun src => match qh8 src with | true => qb5 tup src tg ft fe K 0 | false => AM.fail) st) v s' := by
  rintro v s' ⟨c, st₁, VA, e, hR, I₁, XA⟩
  exact ⟨c, st₁, VA, by unfold AM.bind; rw [e], hR, I₁, XA⟩
 refine w0z (w3z (hi A V st s hA I hb1) (fun x s₁ h₁ => ?_) fun v s' q => hE v s' q)
 refine w0z (wpAny_standAt (w0z (w1z (hs x) (w0z (w8z (w3z h₁ ?_ fun v s' q => hE v s' q))))))
 rintro it sB ⟨src, stB, VB, a, a2, eB, rfl, IB, XB, hsrc, hen, hown⟩
 rw [w1q eB] at hb ⊢
 induction hni : qh8 src with
 | false => exact q3q (hni ▸ hb)
 | true =>
  rw [hni] at hb
  dsimp only at hb ⊢
  have own : ∀ b, ownP a a2 b -> s.heap.get? b = none /\ g.U.get? b = none /\ b ≠ cx.env.locals /\ ¬ Fs cx.fr b := fun b hb => by
   have nn := I.none_of (hown b hb).1
   exact ⟨(hown b hb).1, nn.1, nn.2.1, nn.2.2.1⟩
  have L := xl7 (prog := prog) hP hC hq htup hcd.quiet hcd.den hturn h3 h4 h5 hA own hen (qe7 I) K (hP _ _ XB.pre hp) IB XB hsrc (fun b hb => (hown b hb).2) hb
  refine w0z (wpAny_runOwn (qb6 hcd hg ha (codeAny_mono L fun r s' hr => ?_) (xs5 (xb2 hni) hsrc (codeAny_mono L fun r s' hr => ?_))))
  all_goals
   induction r with
   | ok f =>
    obtain ⟨st', ρ', w1, w2, w3⟩ := hr
    exact w2z ⟨(), st', ρ', w1, trivial, w2, w3⟩
   | error x =>
    obtain ⟨k, st', ρ', w1, w2, w3, w4⟩ := hr
    exact zp2 w3 w4 (qe7 I) w2 fun s'' a b c => ⟨k, st', ρ', w1, a.at, b, c⟩
noncomputable def qo8 (cel : List Nat) : List Nat -> Option (List Nat)
 | [] => some []
 | j :: r => match cel[j]? with
  | some k => match qo8 cel r with
   | some l => some (k :: l)
   | none => none
  | none => none
noncomputable def v4q (mk : AO) (m : Nat) (cj : List Nat) (K : Nat) (tup : Bool) (tg : AV -> AM Unit) (ft : AM Bool) (fe : AV -> AM Unit) (src : Src) : AM AV := fun st =>
 match Nat.blt st.H.n z5q && qh8 src with
 | true => match qo8 st.cel cj with
  | some cel => match qb5 tup src tg ft (fe (.ref st.H.n)) K 0 ⟨st.H.push mk, List.replicate m none, cel⟩ with
   | .ok _ st' => .ok (.ref st.H.n) { st with H := st'.H }
   | .exc k st' => .exc k { st with H := st'.H }
   | .bad => .bad
  | none => .bad
 | false => .bad
inductive CjOk (cx : Cx) (cl : List (Str × Addr)) : List Str -> List Nat -> Prop
 | nil : CjOk cx cl [] []
 | cons {x : Str} {j : Nat} {l : List Str} {cj : List Nat} : At cx.cn j x -> cl.lookup x = cx.env.cells.lookup x -> CjOk cx cl l cj -> CjOk cx cl (x :: l) (j :: cj)
theorem CjOk.pick {cl : List (Str × Addr)} {V : List Addr} {st : St} {s : Shared} (I : Inv g cx V st s) : ∀ {l : List Str} {cj : List Nat} {cel : List Nat}, CjOk cx cl l cj -> qo8 st.cel cj = some cel -> ∀ (i : Nat) x, l[i]? = some x -> CellAt (cl) V cel i x
 | _, _, _, .nil, _, i, x, h => by simp at h
 | _, _, cel, .cons (x := y) (j := j) ha hl r, h, i, x, hx => by
  unfold qo8 at h
  induction e : st.cel[j]? with
  | none => exact q6q (e ▸ h)
  | some k =>
   rw [e] at h
   dsimp only at h
   rename_i cj'
   induction e2 : qo8 st.cel cj' with
   | none => exact q6q (e2 ▸ h)
   | some l' =>
    obtain rfl := w4z (e2 ▸ h)
    induction i with
    | zero =>
     simp at hx
     subst hx
     obtain ⟨k', c, h1, h2, h3⟩ := I.cells j y ha.get
     obtain rfl := w4z (e.symm.trans h1)
     exact ⟨k, c, rfl, hl.trans h2, h3⟩
    | succ i =>
     obtain ⟨k', c, h1, h2, h3⟩ := CjOk.pick I r e2 i x (by simpa using hx)
     exact ⟨k', c, by simpa using h1, h2, h3⟩
noncomputable def y9q (cx : Cx) (scope : Scope) (cl : List (Str × Addr)) (nm cn : List Str) (C : Addr) : Cx := ⟨compEnvC scope cl C cx.env, nm, cn, cx.fr, cx.q⟩
noncomputable def zg4 (o : Obj) : Obj := { o with data := .freed }
noncomputable def qf8 (h : Heap) (a a2 : Addr) : Heap := (h.update a zg4).update a2 zg4
theorem qu9 (h : Heap) (a : Addr) : (h.update a zg4).get? a = none := by
 induction q2 : (h.update a zg4).get? a with
 | none => rfl
 | some o =>
  obtain ⟨h1, h2⟩ := Heap.get?_some_iff.mp q2
  have : ∃ x, o = zg4 x := by
   cases h
   simp only [Heap.update, Array.getElem?_modify, if_true] at h1
   obtain ⟨x, _, hx⟩ := Option.map_eq_some_iff.mp h1
   exact ⟨x, hx.symm⟩
  obtain ⟨x, rfl⟩ := this
  exact jh5 h2
theorem xt6 (h : Heap) {a a2 b : Addr} (hb : ownP a a2 b) : (qf8 h a a2).get? b = none := by
 unfold qf8
 by_cases q : b = a2
 . rw [q]; exact qu9 _ _
 . rcases hb with z | z
   . rw [Heap.get?_update_other _ _ (Ne.symm q), z]; exact qu9 _ _
   . exact absurd z q
theorem qg7 (h : Heap) {a a2 b : Addr} (hb : ¬ ownP a a2 b) : (qf8 h a a2).get? b = h.get? b := by
 unfold qf8
 rw [Heap.get?_update_other _ _ (fun z => hb (.inr z.symm)), Heap.get?_update_other _ _ (fun z => hb (.inl z.symm))]
theorem xc1 {scope : Scope} {cl : List (Str × Addr)} {nm cn : List Str} {C a a2 : Addr} {VO V VA ρ' : List Addr} {st st' : St} {hS h₁ : Heap} {s s' : Shared} (XO : Ext cx VO hS V s.heap) (I : Inv g cx V st s) (hk : ∀ b o, s.heap.get? b = some o -> h₁.get? b = some o) (hp : Pre V VA) (hnew : ∀ x ∈ VA, x ∉ V -> s.heap.get? x = none)
 (hC : s.heap.get? C = none) (hown : ∀ b, ownP a a2 b -> hS.get? b = none /\ b ∉ VA /\ b ≠ cx.env.locals /\ ¬ Fs cx.fr b) (I' : Inv g (y9q cx scope cl nm cn C) ρ' st' s') (X' : Ext (y9q cx scope cl nm cn C) VA (qf8 h₁ a a2) ρ' s'.heap) :
 Inv g cx ρ' { st with H := st'.H } s' /\ Ext cx VO hS ρ' s'.heap := by
 have old : ∀ {b o}, s.heap.get? b = some o -> b ∉ V -> b ∉ VA := fun {b o} e nb q => by rw [hnew b q nb] at e; exact q6q e
 have neC : ∀ {b o}, s.heap.get? b = some o -> b ≠ C := fun {b o} e q => by rw [q, hC] at e; exact q6q e
 have keep : ∀ b o, s.heap.get? b = some o -> b ∉ V -> ¬ ownP a a2 b -> (¬ Fs cx.fr b -> s'.heap.get? b = some o) /\ ∃ sl, s'.heap.get? b = some { o with slots := sl } := fun b o e nb no =>
  X'.keep b o ((qg7 h₁ no).trans (hk b o e)) (old e nb) (neC e)
 have fr : ∀ x ∈ ρ', x ∉ V -> ownP a a2 x \/ s.heap.get? x = none := fun x h1 h2 => by
  by_cases h3 : x ∈ VA
  . exact .inr (hnew x h3 h2)
  . have z := (X'.fresh x h1 h3).1
    by_cases no : ownP a a2 x
    . exact .inl no
    . rw [qg7 h₁ no] at z
      refine .inr ?_
      induction q : s.heap.get? x with
      | none => rfl
      | some o => rw [hk x o q] at z; exact k2q z
 have X : Ext cx VO hS ρ' s'.heap := by
  refine ⟨XO.pre.trans (hp.trans X'.pre), fun x h1 h2 => ?_, fun b o e nb nl => ?_⟩
  . by_cases h3 : x ∈ V
    . exact XO.fresh x h3 h2
    . rcases fr x h1 h3 with z | z
      . exact ⟨(hown x z).1, (hown x z).2.2.1⟩
      . have nn := I.none_of z
        exact ⟨XO.none z h2 nn.2.1, nn.2.1⟩
  . have no : ¬ ownP a a2 b := fun z => by rw [(hown b z).1] at e; exact q6q e
    have nr : b ∉ V := fun z => by have := (XO.fresh b z nb).1; exact k2q (e.symm.trans this)
    obtain ⟨k1, sl, k2⟩ := XO.keep b o e nb nl
    refine ⟨fun nf => (keep b o (k1 nf) nr no).1 nf, ?_⟩
    obtain ⟨_, sl', k3⟩ := keep b _ k2 nr no
    exact ⟨sl', k3⟩
 refine ⟨⟨I'.base, fun x hx => ?_, I'.nodup, I'.live, I'.heap, I'.size, ?_, I.lnew, fun i x hx => ?_, I'.frs, I'.gens, I'.drawn, I'.os, I'.tabs⟩, X⟩
 . obtain ⟨o1, o2, o3⟩ := I'.own x hx
   refine ⟨o1, ?_, o3⟩
   by_cases q : x ∈ V
   . exact (I.own x q).2.1
   . rcases fr x hx q with z | z
     . exact (hown x z).2.2.1
     . exact (I.none_of z).2.1
 . obtain ⟨m, ⟨o, es, ep, h1, h2, h3, h4⟩, hm⟩ := I.loc
   obtain ⟨_, sl, e⟩ := keep cx.env.locals o h1 (fun z => (I.own _ z).2.1 rfl) (fun z => (hown _ z).2.2.1 rfl)
   exact ⟨m, ⟨_, es, ep, e, h2, h3, h4⟩, fun i x hx => (hm i x hx).mono (hp.trans X'.pre)⟩
 . obtain ⟨k, c, h1, h2, h3⟩ := I.cells i x hx
   exact ⟨k, c, h1, h2, (hp.trans X'.pre).get h3⟩
structure CompSpec (g : Gl) (prog : Program) (cx : Cx) (n : Nat) (e : Expr) (scope : Scope) (target iter : Expr) (ifs : List Expr) (nm cn : List Str) (cl : List (Str × Addr)) (cj : List Nat) (tup : Bool) (tg : AV -> AM Unit) (ft : AM Bool) (fe : AV -> AM Unit) (EMIT : Value -> Env -> Sem Unit) : Prop where
 cls : ∃ gc gs, clausesOf e = gc :: gs /\ gc.iter = iter /\ (gc.is_async != 0) = false
 code : CodeIs g prog e 0
 fold : ∀ x, foldedSetIterable iter cx.env x = pure x
 clos : closureFor scope cx.env = pure cl
 kind : scope.kind = .function
 names : ∀ x ∈ scope.names, x.2 = .local -> scope.names.lookup x.1 = some .local
 cell : ∀ x ∈ scope.names, x.2 ≠ .cell
 cj : CjOk cx cl cn cj
 tup : tup = true -> ∃ elts x p, target = .Tuple elts x p
 turn : ∀ acc env, qy1 e 0 target ifs acc env (EMIT acc env)
 tg : ∀ C, TgOk g prog (y9q cx scope cl nm cn C) n target tg
 test : ∀ C, xh4 g prog (y9q cx scope cl nm cn C) n ifs ft
 emit : ∀ C acc a, RefX g prog (y9q cx scope cl nm cn C) n (fun V => repV g.ν V a acc) qv0 (EMIT acc (compEnvC scope cl C cx.env)) (fe a)
theorem Inv.sameC {V : List Addr} {st : St} {s : Shared} (I : Inv g cx V st s) {C : Addr} {h' : Heap} (tk : Nat) (hC : g.U.get? C = none /\ C ∉ V /\ C ≠ cx.env.locals /\ ¬ Fs cx.fr C) (hs : Heap.SameBut C s.heap h') : Inv g cx V st { s with heap := h', toks := tk } :=
 I.side (own := (· = C)) tk (fun _ z => z ▸ hC) fun b o e nb => hs.extBut b o nb e
theorem qx0 {V ρ' : List Addr} {h0 h h' : Heap} {C : Addr} (X : Ext cx V h0 ρ' h) (hC : h0.get? C = none) (hs : Heap.SameBut C h h') : Ext cx V h0 ρ' h' :=
 qq1 (own := (· = C)) X (fun b (z : b = C) => z ▸ hC) (Slid.plain fun b o e nb => hs.extBut b o nb e)
theorem xg0 {e : Expr} {scope : Scope} {target iter : Expr} {ifs : List Expr} {nm cn : List Str} {cl : List (Str × Addr)} {cj : List Nat} {tup : Bool} {tg : AV -> AM Unit} {ft : AM Bool} {fe : AV -> AM Unit} {EMIT : Value -> Env -> Sem Unit} {f : AM Src} {pos : Pos} {newAcc : Sem Value} {oacc : Obj} {mk : AO} {use : Option (Value -> Sem Unit)} {u : AV -> AM Unit}
 (S : CompSpec g prog cx n e scope target iter ifs nm cn cl cj tup tg ft fe EMIT) (hCx : CxOk cx) (hq : cx.q = true) (K : Nat) (hi : RefI g prog cx n iter f)
 (hacc : ∀ (A : Around) (s : Shared) (Q E : VP), Q (.ref s.heap.objs.size) { s with heap := s.heap.push oacc } -> wpAny (model prog g.w) A newAcc Q E s) (hmk : ∀ V, j2q g V oacc mk) (hfree : oacc.isFreed = false)
 (hu : ∀ w, use = some w -> StOk g prog cx n w u)
 {A : Around} {V : List Addr} {st : St} {s : Shared} (hA : AOk cx n A) (I : Inv g cx V st s) (hb : (f.bind (v4q mk nm.length cj K tup tg ft fe)) st ≠ .bad) {Q E : VP}
 (hub : ∀ a st', (f.bind (v4q mk nm.length cj K tup tg ft fe)) st = .ok a st' -> use.isSome = true -> u a st' ≠ .bad)
 (hQ : ∀ a v st' ρ' s', (f.bind (v4q mk nm.length cj K tup tg ft fe)) st = .ok a st' -> repV g.ν ρ' a v -> Inv g cx ρ' st' s' -> Ext cx V s.heap ρ' s'.heap -> use = none -> Q v s')
 (hQu : ∀ a st' ρ' st'' s', (f.bind (v4q mk nm.length cj K tup tg ft fe)) st = .ok a st' -> use.isSome = true -> u a st' = .ok () st'' -> Inv g cx ρ' st'' s' -> Ext cx V s.heap ρ' s'.heap -> Q .none s')
 (hEu : ∀ a st' v s', (f.bind (v4q mk nm.length cj K tup tg ft fe)) st = .ok a st' -> use.isSome = true -> (∃ k st'' ρ', u a st' = .exc k st'' /\ ExcAt s.heap ρ' cx (qx5 k) v s'.heap /\ Inv g cx ρ' st'' s' /\ Ext cx V s.heap ρ' s'.heap) -> E v s')
 (hE : ∀ v s', EOk g cx V s ((f.bind (v4q mk nm.length cj K tup tg ft fe)) st) v s' -> E v s') :
 wpAny (model prog g.w) A (comprehension e scope cx.env pos newAcc false (eval iter cx.env) use) Q E s := by
 obtain ⟨gc, gs, hcl, hit, has⟩ := S.cls
 have hb1 := x5q hb
 have hEf : ∀ v s', EOk g cx V s (f st) v s' -> E v s' := by
  rintro v s' ⟨c, st₁, VA, e, hR, I₁, XA⟩
  exact hE v s' ⟨c, st₁, VA, by unfold AM.bind; rw [e], hR, I₁, XA⟩
 refine wpAny_comprehension_free (use := use) hcl (by rw [hit]; exact S.fold) S.clos S.kind S.names (w3z (hi A V st s hA I hb1) (fun x s₁ h₁ => w3z h₁ ?_ fun v s' q => hEf v s' q) fun v s' q => hEf v s' q)
 rintro it sB ⟨src, stB, VB, a, a2, eB, rfl, IB, XB, hsrc, hen, hown⟩
 have ef := w1q (k := v4q mk nm.length cj K tup tg ft fe) eB
 rw [ef] at hb hub hQ hQu hE hEu
 unfold v4q at hb
 induction e3 : Nat.blt stB.H.n z5q && qh8 src with
 | false => exact q3q (e3 ▸ hb)
 | true =>
  rw [e3] at hb
  skip
  induction e4 : qo8 stB.cel cj with
  | none => exact q3q (e4 ▸ hb)
  | some cel =>
   rw [e4] at hb
   dsimp only at hb
   have e3' := e3
   rw [Bool.and_eq_true] at e3
   have hbl : qb5 tup src tg ft (fe (.ref stB.H.n)) K 0 ⟨stB.H.push mk, List.replicate nm.length none, cel⟩ ≠ .bad := fun z => hb (by rw [z])
   have ecM : v4q mk nm.length cj K tup tg ft fe src stB = match qb5 tup src tg ft (fe (.ref stB.H.n)) K 0 ⟨stB.H.push mk, List.replicate nm.length none, cel⟩ with
    | .ok _ st' => .ok (.ref stB.H.n) { stB with H := st'.H }
    | .exc k st' => .exc k { stB with H := st'.H }
    | .bad => .bad := by
    unfold v4q
    rw [e3', e4]
    all_goals dsimp only
    all_goals (cases qb5 tup src tg ft (fe (.ref stB.H.n)) K 0 ⟨stB.H.push mk, List.replicate nm.length none, cel⟩ <;> rfl)
   rw [ecM] at hub hQ hQu hE hEu
   refine hacc _ _ _ _ ?_
   obtain ⟨IC, XC⟩ := IB.alloc sB.toks (h' := sB.heap.push oacc) (a := sB.heap.objs.size) (o := oacc) (ao := mk) (z0q sB) (Heap.get?_push_size _ hfree) (fun b o e => w6z _ e) (hmk _) e3.1
   have hD : (VB ++ [sB.heap.objs.size])[stB.H.n]? = some sB.heap.objs.size := by rw [IB.size]; simp
   refine wpAny_newFunctionEnv S.cell (by intro y hy; simp at hy) (fun h₁ hnsA hsbA => ?_) S.kind
   skip
   have hCn : (sB.heap.push oacc).get? (sB.heap.push oacc).objs.size = none := z0q { sB with heap := sB.heap.push oacc }
   generalize hCe : (sB.heap.push oacc).objs.size = C at hnsA hsbA hCn ⊢
   have hkA : ∀ b o, (sB.heap.push oacc).get? b = some o -> h₁.get? b = some o := fun b o e => hsbA.extBut b o (fun z => by rw [z, hCn] at e; exact q6q e) (w6z _ e)
   have hkB : ∀ b o, sB.heap.get? b = some o -> h₁.get? b = some o := fun b o e => hkA b o (w6z _ e)
   have nC := IC.none_of hCn
   have hCsB : sB.heap.get? C = none := by
    induction q : sB.heap.get? C with
    | none => rfl
    | some o => have := w6z oacc q; exact q6q (hCn.symm.trans this)
   have hCs : s.heap.get? C = none := XB.none hCsB (fun z => nC.2.2.2 (List.mem_append_left _ (XB.pre.mem z))) nC.2.1
   have hlive : ∀ b, ownP a a2 b -> ∃ o, sB.heap.get? b = some o := hsrc.live hen
   have hapart : ∀ b, ownP a a2 b -> b ∉ VB ++ [sB.heap.objs.size] := fun b hb z => by
    rcases List.mem_append.mp z with z | z
    . exact (hown b hb).2 z
    . obtain ⟨o, eo⟩ := hlive b hb
      rw [List.mem_singleton] at z
      rw [z, z0q sB] at eo; exact q6q eo
   have hownS : ∀ b, ownP a a2 b -> s.heap.get? b = none /\ b ∉ VB ++ [sB.heap.objs.size] /\ b ≠ cx.env.locals /\ ¬ Fs cx.fr b := fun b hb => by
    have nn := I.none_of (hown b hb).1
    exact ⟨(hown b hb).1, hapart b hb, nn.2.1, nn.2.2.1⟩
   -- inside
   have ID : Inv g (y9q cx scope cl nm cn C) (VB ++ [sB.heap.objs.size]) ⟨stB.H.push mk, List.replicate nm.length none, cel⟩ { sB with heap := h₁, toks := sB.toks + ([] : List (Str × Value)).length } := by
    refine ⟨fun b o e => hkA b o (IC.base b o e), fun b hb => ⟨(IC.own b hb).1, fun z => nC.2.2.2 ((show b = C from z) ▸ hb), (IC.own b hb).2.2⟩, IC.nodup, fun b hb => (IC.live b hb).imp fun o e => hkA b o e,
     fun i ao e => IC.heap_keep (Pre.refl _) (fun b _ o => hkA b o) e, IC.size, ⟨_, hnsA, fun i x hx => ?_⟩, nC.1, fun i x hx => ?_, fun e he => ?_, IC.gens, IC.drawn, IC.os, IC.tabs⟩
    . have : ((List.replicate nm.length (none : Option AV))[i]?).join = none := by
       rw [List.getElem?_replicate]; split <;> rfl
      rw [this]; trivial
    . obtain ⟨k, c, q1, q2, q3⟩ := CjOk.pick IB S.cj e4 i x hx
      exact ⟨k, c, q1, q2, Pre.get ⟨_, rfl⟩ q3⟩
    . obtain ⟨q0, b, o, es, ep, q1, q2, q3, q4⟩ := IC.frs e he
      exact ⟨q0, b, o, es, ep, q1, hkA b o q2, q3, q4⟩
   have hsrcD : qk8 (VB ++ [sB.heap.objs.size]) src 0 a a2 h₁ := hsrc.keep ⟨_, rfl⟩ (fun o e => hkB _ o e) (fun o e => hkB _ o e)
   have own : ∀ b, ownP a a2 b -> (qf8 h₁ a a2).get? b = none /\ g.U.get? b = none /\ b ≠ (y9q cx scope cl nm cn C).env.locals /\ ¬ Fs (y9q cx scope cl nm cn C).fr b := fun b hb => by
    have nn := I.none_of (hown b hb).1
    refine ⟨xt6 h₁ hb, nn.1, fun z => ?_, nn.2.2.1⟩
    obtain ⟨o, eo⟩ := hlive b hb
    rw [show b = C from z, hCsB] at eo; exact q6q eo
   have hb0 : ∀ b, (qf8 h₁ a a2).get? b = none -> g.U.get? b = none := fun b e => by
    by_cases no : ownP a a2 b
    . exact (own b no).2.1
    . rw [qg7 h₁ no] at e; exact qe7 ID b e
   have XL : Ext (y9q cx scope cl nm cn C) (VB ++ [sB.heap.objs.size]) (qf8 h₁ a a2) (VB ++ [sB.heap.objs.size]) h₁ := by
    refine ⟨Pre.refl _, fun x h1 h2 => absurd h1 h2, fun b o e _ _ => ?_⟩
    have no : ¬ ownP a a2 b := fun z => by rw [xt6 h₁ z] at e; exact q6q e
    rw [qg7 h₁ no] at e
    exact ⟨fun _ => e, o.slots, e⟩
   have hpD : Pre VB (VB ++ [sB.heap.objs.size]) := ⟨_, rfl⟩
   have hnew : ∀ x ∈ VB ++ [sB.heap.objs.size], x ∉ VB -> sB.heap.get? x = none := fun x h1 h2 => by
    rcases List.mem_append.mp h1 with z | z
    . exact absurd z h2
    . rw [List.mem_singleton.mp z]; exact z0q sB
   have hCx' : CxOk (y9q cx scope cl nm cn C) := hCx
   have L := xl7 (prog := prog) (cx := y9q cx scope cl nm cn C) (n := n) (fun V ρ' p h => (z6q g.ν (.ref stB.H.n) (.ref sB.heap.objs.size)) V ρ' p h) hCx' hq S.tup S.code.quiet S.code.den (S.turn (.ref sB.heap.objs.size) _) (S.tg C) (S.test C) (S.emit C (.ref sB.heap.objs.size) (.ref stB.H.n))
    (A := A) ⟨hA.frames, hA.depth, hA.units, hA.quiet⟩ own hen hb0 K (i₀ := 0) ⟨_, hD, rfl⟩ ID XL hsrcD hapart hbl
   have post : ∀ r s', jg0 g (y9q cx scope cl nm cn C) (VB ++ [sB.heap.objs.size]) (qf8 h₁ a a2) (qb5 tup src tg ft (fe (.ref stB.H.n)) K 0 ⟨stB.H.push mk, List.replicate nm.length none, cel⟩) r s' -> compPost (model prog g.w) A E use Q (.ref sB.heap.objs.size) C r s' := by
    intro r s' hr
    induction r with
    | ok fl =>
     obtain ⟨st', ρ', w1, I', X'⟩ := hr
     rw [w1] at hub hQ hQu hE hEu
     obtain ⟨J, X⟩ := xc1 XB IB hkB hpD hnew hCsB hownS I' X'
     have hrep : repV g.ν ρ' (.ref stB.H.n) (.ref sB.heap.objs.size) := ⟨_, X'.pre.get hD, rfl⟩
     have hCV : C ∉ ρ' := fun z => (I'.own C z).2.1 rfl
     have hCo : g.U.get? C = none /\ C ∉ ρ' /\ C ≠ cx.env.locals /\ ¬ Fs cx.fr C := ⟨nC.1, hCV, nC.2.1, nC.2.2.1⟩
     obtain ⟨m, hm, _⟩ := I'.loc
     induction use with
     | none => exact ⟨m, hm, fun h' hs' => hQ _ _ _ ρ' _ rfl hrep (J.sameC s'.toks hCo hs') (qx0 X hCs hs') rfl⟩
     | some w =>
      refine w3z (hu w rfl (.ref stB.H.n) (.ref sB.heap.objs.size) A ρ' _ s' hA hrep J (hub _ _ rfl rfl)) ?_ ?_
      . rintro _ s'' ⟨_, st'', V'', q1, _, I'', X''⟩
        have hCV'' : C ∉ V'' := fun z => by
         obtain ⟨o, es, ep, ho, _⟩ := hm
         have := (X''.fresh C z hCV).1
         rw [show s'.heap.get? C = some o from ho] at this; exact k2q this
        obtain ⟨o, es, ep, ho, hr'⟩ := hm
        have ho'' := (X''.keep C o ho hCV nC.2.1).1 nC.2.2.1
        exact ⟨m, ⟨o, es, ep, ho'', hr'⟩, fun h' hs' => hQu _ _ V'' st'' _ rfl rfl q1 (I''.sameC s''.toks ⟨nC.1, hCV'', nC.2.1, nC.2.2.1⟩ hs') (qx0 (X.trans X'') hCs hs')⟩
      . rintro v s'' ⟨k, st'', V'', q1, q2, q3, q4⟩
        exact hEu _ _ v s'' rfl rfl ⟨k, st'', V'', q1, q2.mono X q4.pre, q3, X.trans q4⟩
    | error x =>
     obtain ⟨k, st', ρ', w1, hx, I', X'⟩ := hr
     rw [w1] at hE
     obtain ⟨J, X⟩ := xc1 XB IB hkB hpD hnew hCsB hownS I' X'
     have hCV : C ∉ ρ' := fun z => (I'.own C z).2.1 rfl
     have hCo : g.U.get? C = none /\ C ∉ ρ' /\ C ≠ cx.env.locals /\ ¬ Fs cx.fr C := ⟨nC.1, hCV, nC.2.1, nC.2.2.1⟩
     obtain ⟨m, hm, _⟩ := I'.loc
     have up : ∀ b, (qf8 h₁ a a2).get? b = none -> b ∉ ρ' -> s.heap.get? b = none /\ b ≠ cx.env.locals := fun b e nb => by
      by_cases no : ownP a a2 b
      . exact ⟨(hownS b no).1, (hownS b no).2.2.1⟩
      . rw [qg7 h₁ no] at e
        have z : sB.heap.get? b = none := by
         induction q : sB.heap.get? b with
         | none => rfl
         | some o => rw [hkB b o q] at e; exact k2q e
        have nn := IB.none_of z
        exact ⟨XB.none z (fun y => nb (X.pre.mem y)) nn.2.1, nn.2.1⟩
     refine ⟨m, hm, fun h' hs' env' _ => ?_⟩
     have hx' : ExcTr s.heap ρ' cx (qx5 k) x h' := by
      obtain ⟨b, o, vs, t, ot, ts, q1, ⟨a1, a2, a3, a4⟩, ⟨t1, t2, t3, t4⟩, q2, q3, q4, q5, q6, q7, q8, q9, q10⟩ := hx
      exact ⟨b, o, vs, t, ot, ts, q1, ⟨(up b a1 a2).1, a2, a3, (up b a1 a2).2⟩, ⟨(up t t1 t2).1, t2, t3, (up t t1 t2).2⟩, q2, hs'.extBut b o a4 q3, q4, q5, q6, q7, hs'.extBut t ot t4 q8, q9, q10⟩
     exact zk5 (J.sameC s'.toks hCo hs') (qx0 X hCs hs') (qe7 I) hx' fun s'' a b c => hE _ _ ⟨k, _, ρ', rfl, a.at, b, c⟩
   exact qb6 S.code (by rw [hcl]; rfl) has (codeAny_mono L fun r s' hr => post r s' hr) (xs5 (xb2 e3.2) hsrcD (codeAny_mono L fun r s' hr => post r s' hr))
noncomputable def qk3 (f : AM AV) (a : AV) : AM Unit := f.bind fun x => (qg0 a x).bind fun _ => AM.ret ()
theorem xv4 {elt : Expr} {f : AM AV} (h : RefE g prog cx n elt f) (acc : Value) (a : AV) : RefX g prog cx n (fun V => repV g.ν V a acc) qv0 (do let _ <- call (.builtin "list.append") [acc, <- eval elt cx.env]) (qk3 f a) := by
 refine RefX.bind (z6q g.ν a acc) (h.weak fun _ _ => trivial) fun x v => ?_
 refine RefX.bind (Mono.and (z6q g.ν a acc) (z6q _ _ _)) (R := repV g.ν) ?_ fun _ _ => RefX.pure fun _ _ => trivial
 refine RefX.weak (P := fun V => reps g.ν V [a, x] [acc, v]) ?_ (fun V h => ⟨h.1, h.2, trivial⟩)
 have := qb9 (g := g) (prog := prog) (cx := cx) (n := n) [a, x] [acc, v]
 exact this
theorem qx3 {elt : Expr} {gens : List Comprehension} {scope : Scope} {pos : Pos} {depth : Nat} : CodeIs g prog (.ListComp elt gens scope pos) depth :=
 ⟨fun _ _ _ => rfl, fun _ _ _ => rfl, fun _ _ _ _ => ⟨rfl, rfl⟩, fun _ _ _ _ => ⟨rfl, theWindowsPlace, rfl⟩⟩
theorem zh3 {k v : Expr} {gens : List Comprehension} {scope : Scope} {pos : Pos} {depth : Nat} : CodeIs g prog (.DictComp k v gens scope pos) depth :=
 ⟨fun _ _ _ => rfl, fun _ _ _ => rfl, fun _ _ _ _ => ⟨rfl, rfl⟩, fun _ _ _ _ => ⟨rfl, theWindowsPlace, rfl⟩⟩
theorem xw7 {elt target iter : Expr} {ifs : List Expr} {scope : Scope} {pos : Pos} (acc : Value) (env : Env) : qy1 (.ListComp elt [⟨target, iter, ifs, 0⟩] scope pos) 0 target ifs acc env (do let _ <- call (.builtin "list.append") [acc, <- eval elt env]) :=
 fun _ => ⟨iter.pos, rfl⟩
theorem xo2 {elt t1 i1 t2 i2 : Expr} {f1 f2 : List Expr} {scope : Scope} {pos : Pos} (acc : Value) (env : Env) : qy1 (.ListComp elt [⟨t1, i1, f1, 0⟩, ⟨t2, i2, f2, 0⟩] scope pos) 0 t1 f1 acc env (do
 let x <- eval i2 env
 standAt i2.pos
 let x <- foldedSetIterable i2 env x
 let _ <- runOwn (.compStart (.ListComp elt [⟨t1, i1, f1, 0⟩, ⟨t2, i2, f2, 0⟩] scope pos) 1 (<- holding [x] (pyIter x)) acc env) env) :=
 fun it => ⟨i1.pos, by
  simp only [bind_assoc, pure_bind]
  rfl⟩
theorem xo1 {elt t1 i1 t2 i2 : Expr} {f1 f2 : List Expr} {scope : Scope} {pos : Pos} (acc : Value) (env : Env) : qy1 (.ListComp elt [⟨t1, i1, f1, 0⟩, ⟨t2, i2, f2, 0⟩] scope pos) 1 t2 f2 acc env (do let _ <- call (.builtin "list.append") [acc, <- eval elt env]) :=
 fun _ => ⟨i2.pos, rfl⟩
theorem za9 {kx vx target iter : Expr} {ifs : List Expr} {scope : Scope} {pos : Pos} (acc : Value) (env : Env) : qy1 (.DictComp kx vx [⟨target, iter, ifs, 0⟩] scope pos) 0 target ifs acc env (do
 let kv <- eval kx env
 let vv <- holding [kv] (eval vx env)
 match acc with
 | .ref d => do
  standAt { kx.pos with endLine := vx.pos.endLine, endCol := vx.pos.endCol }
  holding [kv, vv] (dictSet d kv vv)
 | _ => unsupported "internal:dictcomp") :=
 fun _ => ⟨iter.pos, rfl⟩
noncomputable def jg9 (a k v : AV) : AM Unit := match a with
 | .ref i => match k with
  | .str x => fun st => match st.H.t.get i with
   | some (.dict es ep) => match Nat.ble es.length 100000 with
    | true => setM i (.dict (putE es x v) (qz0 es x ep)) (AM.ret ()) st
    | false => .bad
   | _ => .bad
  | _ => AM.fail
 | _ => AM.fail
noncomputable def zo3 (fk fv : AM AV) (a : AV) : AM Unit := match a with
 | .ref i => fk.bind fun k => fv.bind fun v => jg9 (.ref i) k v
 | _ => AM.fail
set_option tactic.hygienic true in
theorem zo2 {kx vx : Expr} {p : Pos} {fk fv : AM AV} (hk : RefE g prog cx n kx fk) (hv : RefE g prog cx n vx fv) (acc : Value) (a : AV) : RefX g prog cx n (fun V => repV g.ν V a acc) qv0 (do
 let kv <- eval kx cx.env
 let vv <- holding [kv] (eval vx cx.env)
 match acc with
 | .ref d => do
  standAt p
  holding [kv, vv] (dictSet d kv vv)
 | _ => unsupported "internal:dictcomp") (zo3 fk fv a) := by
 induction a <;> try exact fun _ _ _ _ _ _ _ hb => absurd rfl hb
 rename_i i
 by_cases hacc : ∃ d, acc = .ref d
 case neg => exact fun _ _ _ _ _ hp _ _ => (by obtain ⟨d, _, e⟩ := hp; exact absurd ⟨d, e⟩ hacc)
 obtain ⟨d, rfl⟩ := hacc
 refine RefW.toX (T := fun A Q E s => wpAny (model prog g.w) A (eval kx cx.env) (fun kv s₁ => wpAny (model prog g.w) A (eval vx cx.env) (fun vv sB => wpAny (model prog g.w) A (dictSet d kv vv) Q E sB) E s₁) E s)
  (fun A Q E s h => w0z (w3z h (fun kv s₁ h₁ => w0z (w8z (w3z h₁ (fun vv sB h₂ => w0z (wpAny_standAt (w8z h₂))) fun _ _ e => e))) fun _ _ e => e)) ?_
 refine RefW.nest (z6q g.ν (.ref i) (.ref d)) (hk.weak fun _ _ => trivial) fun k kv => ?_
 refine RefW.nest (Mono.and (z6q g.ν (.ref i) (.ref d)) (z6q _ _ _)) (hv.weak fun _ _ => trivial) fun v vv => ?_
 refine RefX.toW ?_
 intro A V st s hA hp I hb
 obtain ⟨⟨ha, hk⟩, hv⟩ := hp
 unfold jg9 at hb ⊢
 obtain ⟨x, rfl⟩ := qo2 hb
 dsimp only at hb ⊢
 obtain ⟨t, rfl⟩ := hk
 obtain ⟨es, ep, e2⟩ := qf6 hb
 . rw [e2] at hb
   try rw [e2]
   dsimp only at hb ⊢
   induction e3 : Nat.ble es.length 100000 with
   | false => rw [e3] at hb; exact q3q hb
   | true =>
    rw [e3] at hb
    dsimp only at hb ⊢
    obtain ⟨e7, e8⟩ := qe1 hb
    rw [e8]
    obtain ⟨y, o, hy, h1, h2, hr⟩ := I.obj e2 ha
    obtain rfl := Value.ref.inj hy
    exact xb8 I h1 h2 hr e3 e7 hv fun s' I' X' => ⟨_, _, V, rfl, trivial, I', X'⟩
section rules
variable {elt kx vx t1 i1 t2 i2 : Expr} {f1 f2 : List Expr} {scope : Scope} {pos : Pos} {nm cn : List Str} {cl : List (Str × Addr)} {cj : List Nat} {tup tup2 : Bool} {tg tg2 : AV -> AM Unit} {ft ft2 : AM Bool} {fe fk fv : AM AV} {fi fi2 : AM Src}
theorem j8q (hs : ∀ x, foldedSetIterable i1 cx.env x = pure x) (hclos : closureFor scope cx.env = pure cl) (hkind : scope.kind = .function) (hnames : ∀ x ∈ scope.names, x.2 = .local -> scope.names.lookup x.1 = some .local) (hcell : ∀ x ∈ scope.names, x.2 ≠ .cell)
 (hcj : CjOk cx cl cn cj) (htup : tup = true -> ∃ elts x p, t1 = .Tuple elts x p) (htg : ∀ C, TgOk g prog (y9q cx scope cl nm cn C) n t1 tg) (hft : ∀ C, xh4 g prog (y9q cx scope cl nm cn C) n f1 ft) (he : ∀ C, RefE g prog (y9q cx scope cl nm cn C) n elt fe) :
 CompSpec g prog cx n (.ListComp elt [⟨t1, i1, f1, 0⟩] scope pos) scope t1 i1 f1 nm cn cl cj tup tg ft (qk3 fe) (fun acc env => do let _ <- call (.builtin "list.append") [acc, <- eval elt env]) :=
 ⟨⟨⟨t1, i1, f1, 0⟩, [], rfl, rfl, rfl⟩, qx3, hs, hclos, hkind, hnames, hcell, hcj, htup, fun _ _ => xw7 _ _, htg, hft, fun C acc a => xv4 (he C) acc a⟩
theorem xa3 (hC : CxOk cx) (hq : cx.q = true) (K : Nat) (hs : ∀ x, foldedSetIterable i1 cx.env x = pure x) (hclos : closureFor scope cx.env = pure cl) (hkind : scope.kind = .function) (hnames : ∀ x ∈ scope.names, x.2 = .local -> scope.names.lookup x.1 = some .local) (hcell : ∀ x ∈ scope.names, x.2 ≠ .cell)
 (hcj : CjOk cx cl cn cj) (htup : tup = true -> ∃ elts x p, t1 = .Tuple elts x p) (htg : ∀ C, TgOk g prog (y9q cx scope cl nm cn C) n t1 tg) (hft : ∀ C, xh4 g prog (y9q cx scope cl nm cn C) n f1 ft)
 (hs2 : ∀ C x, foldedSetIterable i2 (y9q cx scope cl nm cn C).env x = pure x) (htup2 : tup2 = true -> ∃ elts x p, t2 = .Tuple elts x p) (hi2 : ∀ C, RefI g prog (y9q cx scope cl nm cn C) n i2 fi2) (htg2 : ∀ C, TgOk g prog (y9q cx scope cl nm cn C) n t2 tg2) (hft2 : ∀ C, xh4 g prog (y9q cx scope cl nm cn C) n f2 ft2)
 (he : ∀ C, RefE g prog (y9q cx scope cl nm cn C) n elt fe) :
 CompSpec g prog cx n (.ListComp elt [⟨t1, i1, f1, 0⟩, ⟨t2, i2, f2, 0⟩] scope pos) scope t1 i1 f1 nm cn cl cj tup tg ft (fun a => fi2.bind fun src => match qh8 src with | true => qb5 tup2 src tg2 ft2 (qk3 fe a) K 0 | false => AM.fail) (fun acc env => do
  let x <- eval i2 env
  standAt i2.pos
  let x <- foldedSetIterable i2 env x
  let _ <- runOwn (.compStart (.ListComp elt [⟨t1, i1, f1, 0⟩, ⟨t2, i2, f2, 0⟩] scope pos) 1 (<- holding [x] (pyIter x)) acc env) env) :=
 ⟨⟨⟨t1, i1, f1, 0⟩, _, rfl, rfl, rfl⟩, qx3, hs, hclos, hkind, hnames, hcell, hcj, htup, fun _ _ => xo2 _ _, htg, hft, fun C acc a =>
  xz0 (cx := y9q cx scope cl nm cn C) (depth := 1) (gc := ⟨t2, i2, f2, 0⟩) (z6q g.ν a acc) hC hq K qx3 rfl rfl htup2 (hs2 C) (hi2 C) (xo1 _ _) (htg2 C) (hft2 C) (xv4 (he C) acc a) i2.pos⟩
theorem xa4 (hs : ∀ x, foldedSetIterable i1 cx.env x = pure x) (hclos : closureFor scope cx.env = pure cl) (hkind : scope.kind = .function) (hnames : ∀ x ∈ scope.names, x.2 = .local -> scope.names.lookup x.1 = some .local) (hcell : ∀ x ∈ scope.names, x.2 ≠ .cell)
 (hcj : CjOk cx cl cn cj) (htup : tup = true -> ∃ elts x p, t1 = .Tuple elts x p) (htg : ∀ C, TgOk g prog (y9q cx scope cl nm cn C) n t1 tg) (hft : ∀ C, xh4 g prog (y9q cx scope cl nm cn C) n f1 ft) (hk : ∀ C, RefE g prog (y9q cx scope cl nm cn C) n kx fk) (hv : ∀ C, RefE g prog (y9q cx scope cl nm cn C) n vx fv) :
 CompSpec g prog cx n (.DictComp kx vx [⟨t1, i1, f1, 0⟩] scope pos) scope t1 i1 f1 nm cn cl cj tup tg ft (zo3 fk fv) (fun acc env => do
  let kv <- eval kx env
  let vv <- holding [kv] (eval vx env)
  match acc with
  | .ref d => do
   standAt { kx.pos with endLine := vx.pos.endLine, endCol := vx.pos.endCol }
   holding [kv, vv] (dictSet d kv vv)
  | _ => unsupported "internal:dictcomp") :=
 ⟨⟨⟨t1, i1, f1, 0⟩, [], rfl, rfl, rfl⟩, zh3, hs, hclos, hkind, hnames, hcell, hcj, htup, fun _ _ => za9 _ _, htg, hft, fun C acc a => zo2 (hk C) (hv C) acc a⟩
theorem xb3 (A : Around) (s : Shared) (Q E : VP) (h : Q (.ref s.heap.objs.size) { s with heap := s.heap.push { cls := .type "list", data := .seq #[] } }) : wpAny (model prog g.w) A (newList []) Q E s := wpAny_newObj_type h
theorem xx5 (A : Around) (s : Shared) (Q E : VP) (h : Q (.ref s.heap.objs.size) { s with heap := s.heap.push { cls := .type "dict", data := .dict #[] } }) : wpAny (model prog g.w) A newDict Q E s := wpAny_newObj_type h
theorem xj0 (V : List Addr) : j2q g V { cls := .type "list", data := .seq #[] } (.list []) := ⟨[], 0, trivial, rfl⟩
theorem zc3 (V : List Addr) : j2q g V { cls := .type "dict", data := .dict #[] } (.dict [] 0) := ⟨[], trivial, by simp, rfl⟩
theorem j9q {gens : List Comprehension} {EMIT : Value -> Env -> Sem Unit} {fm : AV -> AM Unit} (S : CompSpec g prog cx n (.ListComp elt (⟨t1, i1, f1, 0⟩ :: gens) scope pos) scope t1 i1 f1 nm cn cl cj tup tg ft fm EMIT) (hC : CxOk cx) (hq : cx.q = true) (K : Nat) (hi : RefI g prog cx n i1 fi) :
 RefE g prog cx n (.ListComp elt (⟨t1, i1, f1, 0⟩ :: gens) scope pos) (fi.bind (v4q (.list []) nm.length cj K tup tg ft fm)) := by
 intro A V st s hA _ I hb
 show wpAny _ A (comprehension _ scope cx.env _ (newList []) false (eval i1 cx.env)) _ _ s
 refine xg0 (use := none) (u := fun _ => AM.fail) S hC hq K hi xb3 xj0 rfl (fun w h => by exact q6q h) hA I hb (fun a st' _ h => by exact j7q h) (fun a v st' ρ' s' e r I' X' _ => ⟨a, st', ρ', e, r, I', X'⟩) (fun a st' ρ' st'' s' e h => by exact j7q h) (fun a st' v s' e h => by exact j7q h) (fun _ _ h => h)
theorem xc5 {gens : List Comprehension} {EMIT : Value -> Env -> Sem Unit} {fm : AV -> AM Unit} (S : CompSpec g prog cx n (.DictComp kx vx (⟨t1, i1, f1, 0⟩ :: gens) scope pos) scope t1 i1 f1 nm cn cl cj tup tg ft fm EMIT) (hC : CxOk cx) (hq : cx.q = true) (K : Nat) (hi : RefI g prog cx n i1 fi) :
 RefE g prog cx n (.DictComp kx vx (⟨t1, i1, f1, 0⟩ :: gens) scope pos) (fi.bind (v4q (.dict [] 0) nm.length cj K tup tg ft fm)) := by
 intro A V st s hA _ I hb
 rw [arm_eval_DictComp]
 show wpAny _ A (comprehension _ scope cx.env _ newDict false (eval i1 cx.env)) _ _ s
 refine xg0 (use := none) (u := fun _ => AM.fail) S hC hq K hi xx5 zc3 rfl (fun w h => by exact q6q h) hA I hb (fun a st' _ h => by exact j7q h) (fun a v st' ρ' s' e r I' X' _ => ⟨a, st', ρ', e, r, I', X'⟩) (fun a st' ρ' st'' s' e h => by exact j7q h) (fun a st' v s' e h => by exact j7q h) (fun _ _ h => h)
theorem xm8 {gens : List Comprehension} {EMIT : Value -> Env -> Sem Unit} {fm : AV -> AM Unit} {x : Str} {px spos : Pos} {u : AV -> AM Unit} (hsw : swapsWith (.ListComp elt (⟨t1, i1, f1, 0⟩ :: gens) scope pos) (some (.Name x px)) spos.line cx.env = pure true)
 (S : CompSpec g prog cx n (.ListComp elt (⟨t1, i1, f1, 0⟩ :: gens) scope pos) scope t1 i1 f1 nm cn cl cj tup tg ft fm EMIT) (hC : CxOk cx) (hq : cx.q = true) (K : Nat) (hi : RefI g prog cx n i1 fi) (hu : StOk g prog cx n (storeName cx.env x) u) :
 RefS g prog cx n (.Assign [.Name x px] (.ListComp elt (⟨t1, i1, f1, 0⟩ :: gens) scope pos) spos) (asgM (fi.bind (v4q (.list []) nm.length cj K tup tg ft fm)) u) := by
 intro A V st s hA _ I hb
 rw [exec_Assign_Name_used _ _ _ _ hsw]
 refine w0z (wpAny_standAt (w0z ?_))
 show wpAny _ A (do let _ <- comprehension _ scope cx.env _ (newList []) false (eval i1 cx.env) (some (assign (.Name x px) cx.env))) _ _ s
 have hb1 : (fi.bind (v4q (.list []) nm.length cj K tup tg ft fm)) st ≠ .bad := x5q hb
 refine w0z (w3z (E := EOk g cx V s (asgM (fi.bind (v4q (.list []) nm.length cj K tup tg ft fm)) u st)) (Q := fun _ s' => QOk g cx V s (repF g.ν) (asgM (fi.bind (v4q (.list []) nm.length cj K tup tg ft fm)) u st) .next s') ?_ (fun _ s' h => w2z (w2z h)) fun _ _ h => h)
 refine xg0 (use := some (assign (.Name x px) cx.env)) (u := u) S hC hq K hi xb3 xj0 rfl (fun w h => by obtain rfl := w4z h; exact fun a v => RefX.of_wp (fun _ _ _ _ h => wpAny_assign_Name h) (hu a v)) hA I hb1 (fun a st' e _ z => hb ?_) (fun a v st' ρ' s' e r I' X' h => by exact k2q h) (fun a st' ρ' st'' s' e _ eu I' X' => ?_) (fun a st' v s' e _ hx => ?_) (fun v s' h => ?_)
 . show (asgM _ u) st = _
   unfold asgM
   rw [w1q e]
   unfold AM.bind
   rw [z]
 . refine ⟨.next, st'', ρ', ?_, rfl, I', X'⟩
   unfold asgM
   rw [w1q e, w1q eu]; rfl
 . obtain ⟨k, st'', ρ', eu, q, q1, q2⟩ := hx
   refine ⟨k, st'', ρ', ?_, q, q1, q2⟩
   unfold asgM
   rw [w1q e]
   unfold AM.bind
   rw [eu]
 . obtain ⟨k, st'', ρ', eu, q, q1, q2⟩ := h
   refine ⟨k, st'', ρ', ?_, q, q1, q2⟩
   unfold asgM
   show ((fi.bind _).bind _) st = _
   unfold AM.bind at eu ⊢
   rw [eu]
end rules
noncomputable def repN : Nat -> List Nat -> List Nat
 | 0, _ => []
 | k + 1, x => x ++ repN k x
theorem zc4 (x : List Nat) : ∀ (k : Nat) (acc : Array Nat), (List.replicate k x.toArray).foldl (· ++ ·) acc = acc ++ (repN k x).toArray
 | 0, acc => by simp [repN]
 | k + 1, acc => by
  rw [List.replicate_succ, List.foldl_cons, zc4 x k, repN]
  simp
theorem xs7 (x : List Nat) : ∀ k, (repN k x).length = k * x.length
 | 0 => by simp [repN]
 | k + 1 => by rw [repN, List.length_append, xs7 x k]; rw [Nat.add_mul]; omega
noncomputable def mulM (a b : AV) : AM AV := match a with
 | .str x => match b with
  | .int j => match j.lit? with
   | some (.ofNat k) => match Nat.ble 2 k && Nat.ble k 100 && Nat.ble x.length 100 && Nat.ble 1 x.length with
    | true => AM.ret (.str (repN k x))
    | false => AM.fail
   | _ => AM.fail
  | _ => AM.fail
 | _ => AM.fail
theorem zl3 {p : Program} {w : World} {A : Around} {E : VP} {s : Shared} {x : Str} {z : Int} {t u : Tok} {Q : VP} (h1 : 2 <= z) (h2 : z <= 100) (h3 : x.length <= 100) (h4 : 1 <= x.length)
 (h : Q (.str ⟨(List.replicate z.toNat x.cps).foldl (· ++ ·) #[]⟩ s.toks) { s with toks := s.toks + 1 }) (hsz : (⟨(List.replicate z.toNat x.cps).foldl (· ++ ·) #[]⟩ : Str).length <= sizeLine) : wpAny (model p w) A (binaryOp .Mult (.str x t) (.int z u)) Q E s := by
 have n1 : ¬ z < 1 := by omega
 have e1 : (z == 1) = false := beq_eq_false_iff_ne.mpr (by omega)
 have e2 : (x.length == 0) = false := beq_eq_false_iff_ne.mpr (by exact Nat.ne_of_gt (by assumption))
 refine P.mul_str ?_ (fun _ _ => ?_) (fun _ _ => ?_) ?_
 . rw [decide_eq_false (by omega), decide_eq_false (by omega)]; rfl
 . have : (100 : Int) <= (2 ^ 63 - 1) / z := by
    apply Int.le_ediv_of_mul_le (by exact Int.le_of_lt (by assumption))
    omega
   omega
 . unfold Builtin.Str.tooLong
   have : x.length * z.toNat <= 100 * 100 := Nat.mul_le_mul h3 (by omega)
   have h9 : (10000 : Nat) < sizeLine := by decide
   simp
   exact Nat.le_trans (by assumption) (by decide)
 . rw [if_neg n1, e1, e2]
   exact ⟨hsz, h⟩
theorem jh8 : OpOk g prog cx n (binaryOp .Mult) mulM := by
 intro a b u v A V st s hA hp I hb
 obtain ⟨ha, hv⟩ := hp
 unfold mulM at hb ⊢
 obtain ⟨x, rfl⟩ := qo2 hb
 obtain ⟨j, rfl⟩ := xq5 hb
 dsimp only at hb ⊢
 obtain ⟨t, rfl⟩ := ha
 obtain ⟨t', rfl⟩ := hv
 induction e0 : j.lit? with
 | none => rw [e0] at hb; exact q3q hb
 | some c =>
  induction c with
  | negSucc m => rw [e0] at hb; exact q3q hb
  | ofNat k =>
   rw [e0] at hb
   rw [SI.lit_val e0]
   dsimp only at hb ⊢
   induction e3 : (Nat.ble 2 k && Nat.ble k 100 && Nat.ble x.length 100 && Nat.ble 1 x.length) with
   | false => rw [e3] at hb; exact q3q hb
   | true =>
    simp only [Bool.and_eq_true] at e3
    obtain ⟨⟨⟨h1, h2⟩, h3⟩, h4⟩ := e3
    have h1 := w5z h1
    have h2 := w5z h2
    have h3 := w5z h3
    have h4 := w5z h4
    have hl : (⟨x.toArray⟩ : Str).length = x.length := by simp [Str.length]
    have e : (⟨(List.replicate (Int.ofNat k).toNat (⟨x.toArray⟩ : Str).cps).foldl (· ++ ·) #[]⟩ : Str) = ⟨(repN k x).toArray⟩ := by
     show (⟨(List.replicate k x.toArray).foldl (· ++ ·) #[]⟩ : Str) = _
     rw [zc4]; simp
    refine zl3 (by show (2 : Int) <= (k : Int); exact Int.ofNat_lt.mpr (by assumption)) (by show (k : Int) <= 100; exact Int.ofNat_le.mpr (by assumption)) (by rw [hl]; exact h3) (by rw [hl]; exact h4) ?_ ?_
    . exact ⟨_, st, V, rfl, ⟨_, by rw [e]⟩, I.tok _, Ext.refl _ _ _⟩
    . rw [e]
      have : (⟨(repN k x).toArray⟩ : Str).length = (repN k x).length := by simp [Str.length]
      rw [this, xs7]
      have : k * x.length <= 100 * 100 := Nat.mul_le_mul h2 h3
      have h9 : (10000 : Nat) <= sizeLine := by decide
      exact Nat.le_trans (by assumption) (by decide)
noncomputable def zh5 (cells : List (Str × Addr)) : List (Str × NameKind) -> List (Str × Addr) -> Option (List (Str × Addr))
 | [], acc => some acc
 | (x, k) :: r, acc => match k == .free with
  | true => match cells.lookup x with
   | some c => zh5 cells r ((x, c) :: acc)
   | none => none
  | false => zh5 cells r acc
theorem xg2 {env : Env} : ∀ {l : List (Str × NameKind)} {acc cl : List (Str × Addr)}, zh5 env.cells l acc = some cl ->
 (forIn (m := Sem) l acc fun (x : Str × NameKind) cs => (do if x.2 == .free then do pure (ForInStep.yield ((x.1, <- cellOf env x.1) :: cs)) else pure (ForInStep.yield cs))) = pure cl
 | [], acc, cl, h => by obtain rfl := w4z h; rfl
 | (x, k) :: r, acc, cl, h => by
  rw [zh5] at h
  rw [List.forIn_cons]
  induction e : k == NameKind.free with
  | true =>
   rw [e] at h
   dsimp only at h
   induction e2 : env.cells.lookup x with
   | none => rw [e2] at h; exact q6q h
   | some c =>
    rw [e2] at h
    have hc : cellOf env x = pure c := by unfold cellOf; rw [e2]
    simp only [if_true, hc, pure_bind]
    exact xg2 h
  | false =>
   rw [e] at h
   simp only [Bool.false_eq_true, if_false, pure_bind]
   exact xg2 h
theorem z3q {scope : Scope} {env : Env} {cl : List (Str × Addr)} (h : zh5 env.cells scope.names [] = some cl) : closureFor scope env = pure cl := by
 have := xg2 h
 unfold closureFor
 simp only [bind_pure_comp, bind_pure, id_map', id_map] at this ⊢
 exact this
theorem xi3 {pos : Pos} : RefE g prog cx n (.Dict [] [] pos) (newM (.dict [] 0)) := fun A V st s hA _ I hb =>
 wpAny_Dict_empty (qi1 (P := TT) (ao := .dict [] 0) (o := { cls := .type "dict", data := .dict #[] }) (fun _ _ _ => ⟨[], trivial, by simp, rfl⟩) rfl A V st s hA trivial I hb)
theorem Inv.upd2 {V : List Addr} {st : St} {s : Shared} (I : Inv g cx V st s) {h' : Heap} (tk : Nat) {i : Nat} {a : Addr} {o : Obj} {ao : AO} (hi : V[i]? = some a) (hs : ∀ b o, s.heap.get? b = some o -> b ≠ a -> h'.get? b = some o) (ho : h'.get? a = some o)
 (hr : j2q g V o ao) (hl : Nat.blt i z5q = true) : Inv g cx V { st with H := st.H.set i ao } { s with heap := h', toks := tk } /\ Ext cx V s.heap V h' := by
 have ha := w7z hi
 refine I.move (Pre.refl V) (fun _ h1 h2 => absurd h1 h2) I.nodup (fun b hb => ?_) (fun b o e nb _ => hs b o e fun q => nb (q ▸ ha)) (fun j ao' e => ?_) I.size (I.loc_keep (Pre.refl V) fun o e => hs _ o e fun z => (I.own a ha).2.1 z.symm) rfl
 . by_cases q : b = a
   . exact ⟨o, q ▸ ho⟩
   . obtain ⟨o', e⟩ := I.live b hb; exact ⟨o', hs b o' e q⟩
 . have e' : (Tr.put ao 40 st.H.t i).get j = some ao' := e
   rw [Tr.get_put _ _ _ _ _ (qa6 hl)] at e'
   by_cases q : j = i
   . rw [if_pos q] at e'
     cases e'
     exact ⟨a, o, q ▸ hi, ho, hr⟩
   . rw [if_neg q] at e'
     obtain ⟨b, ob, h1, h2, h3⟩ := I.heap j ao' e'
     refine ⟨b, ob, h1, hs b ob h2 fun z => ?_, h3⟩
     subst z
     obtain ⟨p1, e1⟩ := List.getElem?_eq_some_iff.mp h1
     obtain ⟨p2, e2⟩ := List.getElem?_eq_some_iff.mp hi
     exact q ((List.getElem_inj I.nodup).mp (e1.trans e2.symm))
noncomputable def xl1 : List (Nat × Nat × Nat) -> Nat -> Nat -> Option Nat
 | [], _, _ => none
 | (l, c, i) :: r, line, col => match Nat.beq l line && Nat.beq c col with
  | true => some i
  | false => xl1 r line col
theorem xv0 {V : List Addr} {pos : Pos} : ∀ {ps : List (Nat × Nat × Nat)} {vs : List Value}, qy8 V ps vs -> TriplesOk vs /\ (∀ i, xl1 ps pos.line pos.col = some i -> ∃ x, V[i]? = some x /\ codeAmong pos vs = some (.ref x)) /\ (xl1 ps pos.line pos.col = none -> codeAmong pos vs = none)
 | [], [], _ => ⟨trivial, fun i h => (by exact q6q h), fun _ => rfl⟩
 | (_, _, _) :: _, [], h => h.elim
 | (_, _, _) :: _, [_], h => h.elim
 | (_, _, _) :: _, [_, _], h => h.elim
 | [], _ :: _, h => h.elim
 | (l, c, i) :: r, a :: b :: v :: vs, ⟨h1, h2, ⟨x, h3, h4⟩, h5⟩ => by
  subst h1 h2 h4
  obtain ⟨k1, k2, k3⟩ := xv0 (pos := pos) h5
  refine ⟨k1, fun j hj => ?_, fun hj => ?_⟩
  all_goals
   rw [xl1] at hj
   show _ 
   have e : ((l : Int) == (pos.line : Int) && (c : Int) == (pos.col : Int)) = (Nat.beq l pos.line && Nat.beq c pos.col) := by
    rw [qk6, qk6]
    have q1 : ((l : Int) == (pos.line : Int)) = decide (l = pos.line) := by
     by_cases q : l = pos.line
     . simp [q]
     . simp [q]; exact mt Int.ofNat.inj (by assumption)
    have q2 : ((c : Int) == (pos.col : Int)) = decide (c = pos.col) := by
     by_cases q : c = pos.col
     . simp [q]
     . simp [q]; exact mt Int.ofNat.inj (by assumption)
    rw [q1, q2]
  . induction hq : Nat.beq l pos.line && Nat.beq c pos.col with
    | true =>
     rw [hq] at hj e
     obtain rfl := w4z hj
     refine ⟨x, h3, ?_⟩
     show (if ((l : Int) == (pos.line : Int) && (c : Int) == (pos.col : Int)) = true then some (Value.ref x) else codeAmong pos vs) = _
     rw [e]; rfl
    | false =>
     rw [hq] at hj e
     obtain ⟨y, q1, q2⟩ := k2 j hj
     refine ⟨y, q1, ?_⟩
     show (if ((l : Int) == (pos.line : Int) && (c : Int) == (pos.col : Int)) = true then some (Value.ref x) else codeAmong pos vs) = _
     rw [e]; exact q2
  . induction hq : Nat.beq l pos.line && Nat.beq c pos.col with
    | true => rw [hq] at hj; exact k2q hj
    | false =>
     rw [hq] at hj e
     show (if ((l : Int) == (pos.line : Int) && (c : Int) == (pos.col : Int)) = true then some (Value.ref x) else codeAmong pos vs) = _
     rw [e]; exact k3 hj
theorem qy8.snoc {V : List Addr} {l c i : Nat} {x : Addr} (h3 : V[i]? = some x) : ∀ {ps : List (Nat × Nat × Nat)} {vs : List Value}, qy8 V ps vs -> qy8 V (ps ++ [(l, c, i)]) (vs ++ [rawInt l, rawInt c, .ref x])
 | [], [], _ => ⟨rfl, rfl, ⟨x, h3, rfl⟩, trivial⟩
 | (_, _, _) :: _, [], h => h.elim
 | (_, _, _) :: _, [_], h => h.elim
 | (_, _, _) :: _, [_, _], h => h.elim
 | [], _ :: _, h => h.elim
 | (_, _, _) :: _, _ :: _ :: _ :: _, ⟨h1, h2, h4, h5⟩ => ⟨h1, h2, h4, qy8.snoc h3 h5⟩
inductive LamC (cx : Cx) : List (Str × Addr) -> List Nat -> Prop
 | nil : LamC cx [] []
 | cons {x : Str} {c : Addr} {j : Nat} {l : List (Str × Addr)} {cj : List Nat} : At cx.cn j x -> cx.env.cells.lookup x = some c -> LamC cx l cj -> LamC cx ((x, c) :: l) (j :: cj)
theorem LamC.pick {V : List Addr} {st : St} {s : Shared} (I : Inv g cx V st s) : ∀ {l : List (Str × Addr)} {cj cel : List Nat}, LamC cx l cj -> qo8 st.cel cj = some cel -> qy9 V cel l
 | _, _, _, .nil, h => by obtain rfl := w4z h; trivial
 | _, _, cel, .cons (x := y) (j := j) (c := c) ha hl r, h => by
  unfold qo8 at h
  induction e : st.cel[j]? with
  | none => rw [e] at h; exact q6q h
  | some k =>
   rw [e] at h
   dsimp only at h
   rename_i cj'
   induction e2 : qo8 st.cel cj' with
   | none => rw [e2] at h; exact q6q h
   | some l' =>
    rw [e2] at h
    obtain rfl := w4z h
    obtain ⟨k', c', h1, h2, h3⟩ := I.cells j y ha.get
    rw [e] at h1
    obtain rfl := w4z h1
    rw [hl] at h2
    obtain rfl := w4z h2
    exact ⟨h3, LamC.pick I r e2⟩
theorem zl8 {M : Model} {A : Around} {E : VP} {s : Shared} {name qual : Str} {params : Arguments} {body : Expr} {scope : Scope} {env : Env} {c P : Addr} {ps : Array Value} {pos : Pos} {firstLine : Nat} {mg : Str -> Option Value}
 {clos : List (Str × Addr)} {Q : VP} (hcl : closureFor scope env = pure clos) (hge0 : env.globals = mainGlobals) (hg : s.heap.Ns mainGlobals mg) (hcode : env.code = .ref c) (C : CodeHd s.heap c P) (hP : s.heap.get? P = some (tabObj ps)) (ht : TriplesOk ps.toList)
 (hnf : codeAmong pos ps.toList = none) (hgP : mainGlobals ≠ P) (hb : s.heap.BuiltinsAt mg P)
 (h : ∀ c' ctv h' tk, Heap.ExtBut P s.heap h' -> s.heap.objs.size <= c' -> c' < h'.objs.size -> h'.CodeRec (.ref c') qual -> h'.get? P = some (tabObj (ps ++ #[rawInt pos.line, rawInt pos.col, .ref c'])) -> (∃ P', h'.TableAt c' P' #[]) ->
  Q (.ref h'.objs.size) { s with heap := h'.push (kla_obj name qual params body scope clos ((mg "__name__").getD .none) c' ctv), toks := tk }) :
 wpAny M A (makeFunction name qual params (.expr body) scope env [] [] [] pos firstLine) Q E s := by
 rw [makeFunction_eq]
 simp only [List.zip_nil_right, List.filterMap_nil, List.isEmpty_nil, if_true, pure_bind]
 obtain ⟨bm, ob, b1, b2, _, b3, b4, b5, b6, b7⟩ := hb
 unfold makeTail
 rw [hcl, hge0]
 refine w0z (w2z ?_)
 induction hcs : clos with
 | nil =>
  subst hcs
  simp only [List.isEmpty_nil, if_true]
  refine w0z (w2z ?_)
  refine w0z (wpAny_functionCodeX hcode (C.code hP ht) (C.tab hP) hnf fun c' h' tk x1 x2 x3 _ x4 x5 x6 => ?_)
  have hg' := hg.extBut x1 hgP
  refine w0z (wpAny_builtinsFor hg' b1 b2 (x1 _ _ b3 b4) b5 b6 b7 (w0z (wpAny_nsGet hg' ?_)))
  obtain ⟨P', _, _, x7⟩ := x6
  exact w0z (w2z (wpAny_newObj_type (h c' .none h' tk x1 x2 x3 x4 x5.2 ⟨P', x7⟩) (by size_fits)))
 | cons q r =>
  subst hcs
  simp only [List.isEmpty_cons, Bool.false_eq_true, if_false]
  refine w0z (wpAny_newTextTuple ?_)
  have C' : ∀ o, CodeHd (s.heap.push o) c P := fun o => C.keeps fun b o' e => w6z _ e
  refine w0z (wpAny_functionCodeX hcode ((C' _).code (w6z _ hP) ht) ((C' _).tab (w6z _ hP)) hnf fun c' h' tk x1 x2 x3 _ x4 x5 x6 => ?_)
  have hg' := (hg.push _).extBut x1 hgP
  have y1 : Heap.ExtBut P s.heap h' := fun b o hb' e => x1 b o hb' (w6z _ e)
  have y2 : s.heap.objs.size <= c' := Nat.le_trans (by rw [Heap.size_push]; exact Nat.le_succ _) x2
  refine w0z (wpAny_builtinsFor hg' b1 b2 (y1 _ _ b3 b4) b5 b6 b7 (w0z (wpAny_nsGet hg' ?_)))
  obtain ⟨P', _, _, x7⟩ := x6
  exact w0z (w2z (wpAny_newObj_type (h c' _ h' tk y1 y2 x3 x4 x5.2 ⟨P', x7⟩) (by size_fits)))
noncomputable def BmOk (g : Gl) : Prop := ∃ bm ob, g.mg "__builtins__" = some (.ref bm) /\ bm ≠ builtinsNs /\ g.U.get? bm = some ob /\ ob.cls = .type "module" /\ ob.dict = some builtinsNs /\ ob.data = .plain
noncomputable def lamM (k ti line col : Nat) (cj : List Nat) : AM AV := fun st => match st.H.t.get ti with
 | some (.tab ps) => match qo8 st.cel cj with
  | some cells => match xl1 ps line col with
   | some c => match Nat.blt st.H.n z5q with
    | true => .ok (.ref st.H.n) { st with H := st.H.push (.fn k cells none c) }
    | false => .bad
   | none => match Nat.blt (st.H.n + 1) z5q && Nat.blt ti z5q with
    | true => .ok (.ref (st.H.n + 1)) { st with H := ((st.H.push (.code k)).set ti (.tab (ps ++ [(line, col, st.H.n)]))).push (.fn k cells none st.H.n) }
    | false => .bad
  | none => .bad
 | _ => .bad
theorem qq9 (G : GOk g) (hB : BmOk g) {params : Arguments} {body : Expr} {scope : Scope} {pos : Pos} {c P : Addr} {ti k : Nat} {clos : List (Str × Addr)} {cj : List Nat} {info : FnInfo}
 (hdef : defaultsOf params cx.env = ([], [])) (hcl : closureFor scope cx.env = pure clos) (hlc : LamC cx clos cj) (hge : cx.env.globals = mainGlobals) (hcode : cx.env.code = .ref c) (hC : CodeHd g.U c P) (hti : g.tabs[ti]? = some P)
 (hinfo : g.fns[k]? = some info) (hi : info = ⟨"<lambda>", cx.env.qual ++ "<lambda>", params, body, scope, clos.map (·.1)⟩) : RefE g prog cx n (.Lambda params body scope pos) (lamM k ti pos.line pos.col cj) := by
 intro A V st s hA _ I hb
 refine kla_eval hdef ?_
 unfold lamM at hb ⊢
 obtain ⟨ps, e1⟩ := zx1 hb
 . rw [e1] at hb
   try rw [e1]
   dsimp only at hb ⊢
   induction e2 : qo8 st.cel cj with
   | none => rw [e2] at hb; exact q3q hb
   | some cells =>
    rw [e2] at hb
    dsimp only at hb ⊢
    obtain ⟨P', oP, h1, h2, ⟨vs, hps, rfl⟩⟩ := I.heap _ _ e1
    have hP : P' = P := by
     have := I.tabs.get hti
     rw [h1] at this; exact w4z this
    subst hP
    have hPn : g.U.get? P' = none := (I.own P' (w7z h1)).1
    obtain ⟨t1, t2, t3⟩ := xv0 (pos := pos) hps
    have hgs := G.ng.keeps I.base
    obtain ⟨bm, ob, b1, b2, b3, b4, b5, b6⟩ := hB
    have hgP : mainGlobals ≠ P' := fun q => by
     obtain ⟨o, es, ep, e, hd, _⟩ := G.ng
     rw [q, hPn] at e; exact q6q e
    have hbP : bm ≠ P' := fun q => by rw [q, hPn] at b3; exact q6q b3
    have hbG : bm ≠ mainGlobals := fun q => by
     obtain ⟨o, es, ep, e, hd, _⟩ := G.ng
     rw [q, e] at b3; obtain rfl := w4z b3; rw [hd] at b6; cases b6
    have HB : s.heap.BuiltinsAt g.mg P' := ⟨bm, ob, b1, b2, hbG, hbP, I.base _ _ b3, b4, b5, b6⟩
    have hcs := LamC.pick I hlc e2
    induction e3 : xl1 ps pos.line pos.col with
    | some ci =>
     rw [e3] at hb
     dsimp only at hb ⊢
     obtain ⟨x, q1, q2⟩ := t2 ci e3
     induction e4 : Nat.blt st.H.n z5q with
     | false => rw [e4] at hb; exact q3q hb
     | true =>
      refine kla_makeFunctionHit (mg := g.mg) (ps := vs.toArray) hcl hge hgs hcode (hC.keeps I.base) h2 t1 q2 HB fun ctv h' tk hk hsz => ?_
      have G1 := I.grow tk hk
      have hn := z0q { s with heap := h', toks := tk }
      have A1 := G1.1.alloc tk (h' := h'.push { cls := .type "function", data := .func (kla_fn "<lambda>" (cx.env.qual ++ "<lambda>") params body scope clos ((g.mg "__name__").getD .none) (.ref x) ctv) }) (a := h'.objs.size) (ao := .fn k cells none ci) hn (Heap.get?_push_size _ rfl) (fun b o e => w6z _ e)
       ⟨_, rfl, rfl, rfl, rfl, ⟨info, hinfo, by rw [hi], by rw [hi], by rw [hi], by rw [hi], by rw [hi], by rw [hi]⟩, rfl, rfl, rfl, rfl, hcs.mono ⟨_, rfl⟩, x, Pre.get ⟨_, rfl⟩ q1, rfl⟩ e4
      refine ⟨.ref st.H.n, _, _, rfl, ⟨h'.objs.size, ?_, rfl⟩, A1.1, G1.2.trans A1.2⟩
      rw [I.size]; simp
    | none =>
     rw [e3] at hb
     dsimp only at hb ⊢
     induction e4 : Nat.blt (st.H.n + 1) z5q && Nat.blt ti z5q with
     | false => rw [e4] at hb; exact q3q hb
     | true =>
      rw [Bool.and_eq_true] at e4
      have e4' : Nat.blt st.H.n z5q = true := by
       have := w5z e4.1
       exact Nat.ble_eq_true_of_le (by exact Nat.le_of_lt (by assumption))
      refine zl8 (mg := g.mg) (ps := vs.toArray) hcl hge hgs hcode (hC.keeps I.base) h2 t1 (t3 e3) hgP HB fun c' ctv h' tk hx hge' hlt hrec htb htc => ?_
      obtain ⟨c2, oc, ws, tq, e5, hoc, hdc, hq⟩ := hrec
      obtain rfl := Value.ref.inj e5
      obtain ⟨PB, ⟨ocB, _, y1, hcc, _⟩, _⟩ := htc
      rw [hoc] at y1
      obtain rfl := w4z y1
      have hc'n : s.heap.get? c' = none := by
       induction q : s.heap.get? c' with
       | none => rfl
       | some o => exact absurd (Heap.lt_size q) (Nat.not_lt.mpr hge')
      have nn := I.none_of hc'n
      have hPV := w7z h1
      have hp : Pre V (V ++ [c']) := ⟨[c'], rfl⟩
      have hti' : ti < V.length := (List.getElem?_eq_some_iff.mp h1).1
      have hne : ti ≠ st.H.n := by rw [I.size]; exact Nat.ne_of_lt (by assumption)
      have hidx : (V ++ [c'])[st.H.n]? = some c' := by rw [I.size]; simp
      have keepP : ∀ b o, s.heap.get? b = some o -> b ≠ P' -> h'.get? b = some o := fun b o e nb => hx b o nb e
      have M := I.move (ρ' := V ++ [c']) (h' := h') (tk := tk) (st' := { st with H := (st.H.push (.code k)).set ti (.tab (ps ++ [(pos.line, pos.col, st.H.n)])) }) hp
       (fun b hb hn => by
        rcases List.mem_append.mp hb with q | q
        . exact absurd q hn
        . rw [List.mem_singleton.mp q]; exact hc'n)
       (List.nodup_append.mpr ⟨I.nodup, by simp, fun x hx y hy => by rw [List.mem_singleton.mp hy]; exact fun z => nn.2.2.2 (z ▸ hx)⟩)
       (fun b hb => by
        rcases List.mem_append.mp hb with q | q
        . by_cases qP : b = P'
          . rw [qP]; exact ⟨_, htb⟩
          . obtain ⟨o, e⟩ := I.live b q; exact ⟨o, keepP b o e qP⟩
        . rw [List.mem_singleton.mp q]; exact ⟨_, hoc⟩)
       (fun b o e nb _ => keepP b o e fun z => nb (z ▸ hPV))
       (fun j ao' e => by
        have e' : (Tr.put (.tab (ps ++ [(pos.line, pos.col, st.H.n)])) 40 (Tr.put (.code k) 40 st.H.t st.H.n) ti).get j = some ao' := e
        rw [Tr.get_put _ _ _ _ _ (qa6 e4.2), Tr.get_put _ _ _ _ _ (qa6 e4')] at e'
        by_cases q : j = ti
        . rw [if_pos q] at e'
          cases e'
          refine ⟨P', _, q ▸ hp.get h1, htb, vs ++ [rawInt pos.line, rawInt pos.col, .ref c'], (hps.mono hp).snoc hidx, ?_⟩
          simp
        . rw [if_neg q] at e'
          by_cases q2 : j = st.H.n
          . rw [if_pos q2] at e'
            cases e'
            exact ⟨c', oc, q2 ▸ hidx, hoc, ws, tq, info, hinfo, hdc, (by rw [hi]; exact hq), hcc⟩
          . rw [if_neg q2] at e'
            obtain ⟨b, ob', r1, r2, r3⟩ := I.heap j ao' e'
            refine ⟨b, ob', hp.get r1, keepP b ob' r2 fun z => ?_, r3.mono hp⟩
            subst z
            obtain ⟨p1, x1⟩ := List.getElem?_eq_some_iff.mp r1
            obtain ⟨p2, x2⟩ := List.getElem?_eq_some_iff.mp h1
            exact q ((List.getElem_inj I.nodup).mp (x1.trans x2.symm)))
       (by show st.H.n + 1 = (V ++ [c']).length; rw [I.size]; simp)
       (I.loc_keep hp fun o e => keepP _ o e fun z => (I.own P' hPV).2.1 z.symm) rfl
      have hn := z0q { s with heap := h', toks := tk }
      have A1 := M.1.alloc tk (h' := h'.push (kla_obj "<lambda>" (cx.env.qual ++ "<lambda>") params body scope clos ((g.mg "__name__").getD .none) c' ctv)) (a := h'.objs.size) (ao := .fn k cells none st.H.n) hn (Heap.get?_push_size _ rfl) (fun b o e => w6z _ e)
       ⟨_, rfl, rfl, rfl, rfl, ⟨info, hinfo, by rw [hi], by rw [hi], by rw [hi], by rw [hi], by rw [hi], by rw [hi]⟩, rfl, rfl, rfl, rfl, (hcs.mono hp).mono ⟨_, rfl⟩, c', Pre.get ⟨_, rfl⟩ hidx, rfl⟩ e4.1
      refine ⟨.ref (st.H.n + 1), _, _, rfl, ⟨h'.objs.size, ?_, rfl⟩, A1.1, M.2.trans A1.2⟩
      rw [I.size]; simp
noncomputable def endL (st : St) (o : Out AV) : Out AV := match o with
 | .ok v st' => .ok v { st with H := st'.H }
 | .exc k st' => .exc k { st with H := st'.H }
 | .bad => .bad
noncomputable def xr3 (k p : Nat) (lp : List (Option Nat)) (fb : AM AV) (b : AV) (as : List AV) : AM AV := fun st => match b with
 | .ref i => match st.H.t.get i with
  | some (.fn k' cells _ c) => match Nat.beq k k' && Nat.beq as.length p with
   | true => match st.H.t.get c with
    | some (.code k'') => match Nat.beq k k'' with
     | true => endL st (fb ⟨st.H, v1q as lp, cells⟩)
     | false => .bad
    | _ => .bad
   | false => .bad
  | _ => .bad
 | _ => .bad
noncomputable def qb1 (info : FnInfo) (L a : Addr) (code : Value) (cl : List (Str × Addr)) : Env := newEnv info.scope L mainGlobals cl (info.qual ++ ".<locals>.") (some a) code none builtinsNs
theorem qy9.get {V : List Addr} : ∀ {cells : List Nat} {cl : List (Str × Addr)} {i : Nat} {x : Str}, qy9 V cells cl -> (cl.map (·.1))[i]? = some x -> (cl.map (·.1)).Nodup -> CellAt (cl) V cells i x
 | [], [], _, _, _, h, _ => by simp at h
 | [], _ :: _, _, _, h, _, _ => h.elim
 | _ :: _, [], _, _, h, _, _ => h.elim
 | k :: r, (y, c) :: es, 0, x, h, hx, _ => by
  simp at hx
  subst hx
  exact ⟨k, c, rfl, by simp, h.1⟩
 | k :: r, (y, c) :: es, i + 1, x, h, hx, hn => by
  obtain ⟨h1, h2⟩ := List.nodup_cons.mp hn
  obtain ⟨k', c', q1, q2, q3⟩ := qy9.get (i := i) (x := x) h.2 (by simpa using hx) h2
  have hxe : x ∈ es.map (·.1) := w7z (by simpa using hx)
  have hne : (x == y) = false := beq_eq_false_iff_ne.mpr fun z => h1 (z ▸ hxe)
  refine ⟨k', c', by simpa using q1, ?_, q3⟩
  rw [List.lookup_cons, hne]; exact q2
noncomputable def LamOk (g : Gl) (prog : Program) (m k : Nat) (info : FnInfo) (nm : List Str) (fb : AM AV) : Prop :=
 g.fns[k]? = some info /\ ∀ L a code cl fr, RefE g prog ⟨qb1 info L a code cl, nm, info.clos, qb1 info L a code cl :: fr, true⟩ m info.body fb
theorem zm4 (G : GOk g) {m k : Nat} {info : FnInfo} {ps nm : List Str} {lp : List (Option Nat)} {fb : AM AV} (hL : LamOk g prog m k info nm fb)
 (hbind : ∀ fd : FuncData, fd.params = info.params -> fd.defaults = .none -> fd.kwdefaults = .none -> ∀ vs : List Value, vs.length = ps.length -> bindArgs fd ⟨vs, []⟩ = pure (ps.zip vs)) (hcell : ∀ x ∈ info.scope.names, x.2 ≠ .cell) (hps : ∀ x ∈ ps, info.scope.names.lookup x = some .local)
 (hn : ps.Nodup) (hlp : nm.map (ixOf ps) = lp) (hnd : info.clos.Nodup) (hco : info.scope.isCoroutine = false) (hgen : info.scope.isGenerator = false) (hkd : info.scope.kind = .function)
 (hmn : m + 1 <= n) (hq : cx.q = true) (b : AV) (u : Value) (as : List AV) (vs : List Value) : RefX g prog cx n (fun V => repV g.ν V b u /\ reps g.ν V as vs) (repV g.ν) (call u vs) (xr3 k ps.length lp fb b as) := by
 obtain ⟨hinf, hb⟩ := hL
 intro A V st s hA hp I hbad
 obtain ⟨hbu, hr⟩ := hp
 unfold xr3 at hbad ⊢
 obtain ⟨i, rfl⟩ : ∃ i, b = .ref i := by induction b <;> first | exact ⟨_, rfl⟩ | exact q3q hbad
 dsimp only at hbad ⊢
 induction e1 : st.H.t.get i with
 | none => rw [e1] at hbad; exact q3q hbad
 | some ao =>
  rw [e1] at hbad
  obtain ⟨k', cells, d, c, rfl⟩ : ∃ k' cells d c, ao = .fn k' cells d c := by induction ao <;> first | exact ⟨_, _, _, _, rfl⟩ | exact q3q hbad
  dsimp only at hbad ⊢
  induction e2 : Nat.beq k k' && Nat.beq as.length ps.length with
  | false => rw [e2] at hbad; exact q3q hbad
  | true =>
   rw [e2] at hbad
   dsimp only at hbad ⊢
   rw [Bool.and_eq_true] at e2
   have hk' := Nat.eq_of_beq_eq_true e2.1
   subst hk'
   have hlen := Nat.eq_of_beq_eq_true e2.2
   induction e3 : st.H.t.get c with
   | none => rw [e3] at hbad; exact q3q hbad
   | some ao =>
    rw [e3] at hbad
    obtain ⟨k'', rfl⟩ : ∃ k'', ao = .code k'' := by induction ao <;> first | exact ⟨_, rfl⟩ | exact q3q hbad
    dsimp only at hbad ⊢
    induction e4 : Nat.beq k k'' with
    | false => rw [e4] at hbad; exact q3q hbad
    | true =>
     rw [e4] at hbad
     dsimp only at hbad ⊢
     have hk'' := Nat.eq_of_beq_eq_true e4
     subst hk''
     obtain ⟨a, o, rfl, h1, h2, ⟨fd, f1, f2, f3, f4, ⟨inf, f5, f6, f7, f8, f9, f10, f11⟩, f12, f13, f14, f15, f16, ca, f17, f18⟩⟩ := I.obj e1 hbu
     rw [hinf] at f5
     obtain rfl := w4z f5
     obtain ⟨ca', oc, r1, r2, ⟨ws, tq, inf', r3, r4, r5, _⟩⟩ := I.heap _ _ e3
     rw [hinf] at r3
     obtain rfl := w4z r3
     rw [f17] at r1
     obtain rfl := w4z r1
     have hvl : vs.length = ps.length := hr.length ▸ hlen
     have hfb : fb ⟨st.H, v1q as lp, cells⟩ ≠ .bad := fun z => hbad (by rw [z]; rfl)
     refine wpAny_call (kla_callFunE (fd := fd) (body := info.body) (by have := hA.depth; have : recursionLimit = 1000 := rfl; exact xr1 (by assumption)) h2 f2 (by rw [f10]; exact hco) (by rw [f10]; exact hgen) f9 ⟨ca, oc, ws, tq, f18, r2, r4, by rw [f7]; exact r5⟩ ?_)
     rw [hbind fd f8 f13 f14 vs hvl]
     refine w2z ?_
     rw [f10]
     refine wpAny_newFunctionEnv hcell (fun x hx => hps x.1 (List.of_mem_zip hx).1) (fun h₁ hns hsb => ?_) hkd
     have hkA : ∀ b o, s.heap.get? b = some o -> h₁.get? b = some o := fun b o e => hsb.extBut b o (Nat.ne_of_lt (Heap.lt_size e)) (w6z _ e)
     have hE : newEnv info.scope s.heap.objs.size fd.globals fd.closure (fd.qualname ++ ".<locals>.") (some a) fd.code none fd.builtins = qb1 info s.heap.objs.size a fd.code fd.closure := by
      unfold qb1; rw [f12, f7, f15]
     rw [hE]
     have EN := xf9 (q := true) (ps := ps) (nm := nm) (cn := []) (lp := lp) (cp := []) (scope := info.scope) (fn := info.clos) (fc := cells) (s₁ := { s with heap := h₁, toks := s.toks + (ps.zip vs).length }) (as := as) (cm := fun _ => none) (m := fun x => (ps.zip vs).reverse.lookup x)
      I (env := qb1 info s.heap.objs.size a fd.code fd.closure) rfl rfl rfl hkd ⟨h₁, _, rfl⟩ hkA hns (fun y hy => by cases hy) (fun y hy => by cases hy) (by simp)
      (fun y hy => by
       by_cases hm : y ∈ ps
       . obtain ⟨j, hj⟩ := List.getElem?_of_mem hm
         have hix : ixOf ps y = some j := by
          have : ∀ {l : List Str} {j : Nat}, l.Nodup -> l[j]? = some y -> ixOf l y = some j := by
           intro l
           induction l with
           | nil => intro j _ h; simp at h
           | cons p r ih =>
            intro j hn h
            obtain ⟨h1, h2⟩ := List.nodup_cons.mp hn
            rw [ixOf]
            induction j with
            | zero => simp at h; rw [h]; simp
            | succ j =>
             have hr : r[j]? = some y := by simpa using h
             have : (p == y) = false := beq_eq_false_iff_ne.mpr fun z => h1 (z ▸ w7z hr)
             rw [this]
             dsimp only
             rw [ih h2 hr]
          exact this hn hj
         rw [hix, qm1 ps vs j y hn hvl.symm hj]
         exact qo7 hr (some j)
       . rw [qp6 hm, qs7 ps vs y hm]; trivial)
      (fun y hy => by cases hy) hlp rfl (fun i y hy => by
       rw [<- f11] at hy
       obtain ⟨k, c, q1, q2, q3⟩ := qy9.get f16 hy (by rw [f11]; exact hnd)
       exact ⟨k, c, q1, q2, q3⟩) (by intro z; exact qt8 z)
     obtain ⟨cel, stB, VB, q1, IB, hpre, hnew⟩ := EN
     obtain ⟨rfl, rfl⟩ := z7q q1
     rw [List.nil_append, List.nil_append] at IB
     refine ⟨(G.nl.keeps I.base).keeps hkA, kla_codeExpr ?_⟩
     have hA' : AOk ⟨qb1 info s.heap.objs.size a fd.code fd.closure, nm, info.clos, qb1 info s.heap.objs.size a fd.code fd.closure :: cx.fr, true⟩ m (A.deeper (qb1 info s.heap.objs.size a fd.code fd.closure)) :=
      ⟨by show (A.frames.map _) = _; rw [hA.frames]; rfl, by have := hA.depth; show A.depth + 1 + m <= 900; exact zg8 (by assumption) (by assumption), by have := hA.units; show A.units + 3 + 10 * m <= 9000; exact za8 (by assumption) (by assumption), fun _ => hA.quiet hq⟩
     have hF : ∀ b, Fs (qb1 info s.heap.objs.size a fd.code fd.closure :: cx.fr) b -> b = (qb1 info s.heap.objs.size a fd.code fd.closure).locals \/ Fs cx.fr b := fun b z => by
      obtain ⟨e, he2, hf⟩ := z
      rcases List.mem_cons.mp he2 with rfl | he2
      . exact .inl (w4z hf).symm
      . exact .inr ⟨e, he2, hf⟩
     refine w3z (hb s.heap.objs.size a fd.code fd.closure cx.fr _ VB _ _ hA' trivial IB hfb) ?_ ?_
     . rintro v s' ⟨y, st', ρ', e, hrv, I', X'⟩
       have e' : fb ⟨st.H, v1q as lp, cells⟩ = .ok y st' := e
       rw [e'] at hbad ⊢
       obtain ⟨J, X⟩ := xt7 (cx := cx) (cx' := ⟨qb1 info s.heap.objs.size a fd.code fd.closure, nm, info.clos, qb1 info s.heap.objs.size a fd.code fd.closure :: cx.fr, true⟩) I hkA hpre hnew (z0q s) hF (fun e he => w9z _ he) I' X'
       exact ⟨y, _, ρ', rfl, hrv, J, X⟩
     . rintro e s' ⟨kx, st', ρ', e', hx, I', X'⟩
       have e'' : fb ⟨st.H, v1q as lp, cells⟩ = .exc kx st' := e'
       rw [e''] at hbad ⊢
       refine qw1 (cx := ⟨qb1 info s.heap.objs.size a fd.code fd.closure, nm, info.clos, qb1 info s.heap.objs.size a fd.code fd.closure :: cx.fr, true⟩) ⟨_, cx.fr, s.heap.objs.size, rfl, rfl, rfl⟩ hA'.frames I' X' (qe7 IB) hx fun sC xC IC XC => ?_
       obtain ⟨J, X⟩ := xt7 (cx := cx) (cx' := ⟨qb1 info s.heap.objs.size a fd.code fd.closure, nm, info.clos, qb1 info s.heap.objs.size a fd.code fd.closure :: cx.fr, true⟩) I hkA hpre hnew (z0q s) hF (fun e he => w9z _ he) IC XC
       exact ⟨kx, _, ρ', rfl, xC.leave (cx := cx) I hkA (fun e he => w9z _ he), J, X⟩
theorem xl9 {M : Model} {A : Around} {E : VP} {s : Shared} {pos : Pos} {a : Addr} {first : List Value} {args : List (Bool × Sem Value)} {Q : VP}
 (h : wpAny M A (evalArgs (.ref a) true args []) (fun x s₁ => (∃ o fd, s₁.heap.get? a = some o /\ o.data = .func fd) /\ wpAny M A (call (.ref a) (first ++ x.pos) x.kw) Q E s₁) E s) : wpAny M A (callWith pos (.ref a) first args []) Q E s := by
 unfold callWith
 refine w0z (w8z (w3z h (fun x s₁ h₁ => w0z (wpAny_standAt ?_)) fun _ _ x => x))
 obtain ⟨⟨o, fd, ho, hd⟩, h₁⟩ := h₁
 have tail : ∀ {t : Sem Value}, wpAny M A t Q E s₁ -> wpAny M A (t >>= fun r => holding [r] point >>= fun _ => pure r) Q E s₁ :=
  fun ht => w0z (w3z ht (fun r sB hr => w0z (w8z (wpAny_point (w2z hr)))) fun _ _ x => x)
 have marked (mk : Value) : wpAny M A (callMarked mk (.ref a) (first ++ x.pos) x.kw) Q E s₁ := by unfold callMarked; exact wpAny_keep h₁
 cases hs : args.any (·.1) <;> simp only [List.any_nil, Bool.or_false] <;>
  refine w0z (m := keeperOf (.ref a)) ?_ <;> unfold keeperOf <;>
  refine w0z (wpAny_load ho ?_) <;> rw [hd] <;> refine w2z ?_ <;>
  first
   | exact tail h₁
   | exact tail (marked _)
   | (refine wpAny_ite ?_; split <;> first | exact tail h₁ | exact tail (marked _))
   | (split <;> first | exact tail h₁ | exact tail (marked _))
noncomputable def zm8 (b : AV) (st : St) : Prop := ∃ i k cells d c, b = .ref i /\ st.H.t.get i = some (.fn k cells d c)
theorem xg5 {k p : Nat} {lp : List (Option Nat)} {fb : AM AV} {b : AV} {as : List AV} {st : St} (h : xr3 k p lp fb b as st ≠ .bad) : zm8 b st := by
 unfold xr3 at h
 obtain ⟨i, rfl⟩ : ∃ i, b = .ref i := by induction b <;> first | exact ⟨_, rfl⟩ | exact q3q h
 dsimp only at h
 induction e1 : st.H.t.get i with
 | none => rw [e1] at h; exact q3q h
 | some ao =>
  rw [e1] at h
  obtain ⟨y36_0, y36_1, y36_2, y36_3, rfl⟩ : ∃ y36_0 y36_1 y36_2 y36_3, ao = .fn y36_0 y36_1 y36_2 y36_3 := by induction ao <;> first | exact ⟨_, _, _, _, rfl⟩ | exact q3q h
  exact ⟨i, _, _, _, _, rfl, e1⟩
noncomputable def xr2 (F : AV -> List AV -> AM AV) (b : AV) (ff : List AV) (fs : List (AM AV)) : AM AV := match b with
 | .ref _ => (q8q fs).bind fun as => F b (ff ++ as)
 | _ => AM.fail
theorem xw2 {b : AV} {u : Value} {first : List Value} {ff : List AV} {es : List Expr} {fs : List (AM AV)} {F : AV -> List AV -> AM AV} {pos : Pos} (hs : qc0 g prog cx n es fs) (hsh : ∀ as st, F b as st ≠ .bad -> zm8 b st)
 (hF : ∀ as vs, RefX g prog cx n (fun V => repV g.ν V b u /\ reps g.ν V as vs) (repV g.ν) (call u vs) (F b as)) :
 RefX g prog cx n (fun V => repV g.ν V b u /\ reps g.ν V ff first) (repV g.ν) (callWith pos u first (backTo pos (starEach es cx.env)) []) (xr2 F b ff fs) := by
 intro A V st s hA hp I hb
 unfold xr2 at hb ⊢
 obtain ⟨i, rfl⟩ : ∃ i, b = .ref i := by induction b <;> first | exact ⟨_, rfl⟩ | exact q3q hb
 dsimp only at hb ⊢
 have hp0 := hp
 obtain ⟨⟨a, ha, rfl⟩, hff⟩ := hp
 have hP : Mono fun V => repV g.ν V (.ref i) (.ref a) /\ reps g.ν V ff first := Mono.and (z6q _ _ _) (xt3 _ _ _)
 have W := RefW.nest (K := fun vs A (Q : VP) E s₁ => (∃ o fd, s₁.heap.get? a = some o /\ o.data = .func fd) /\ wpAny (model prog g.w) A (call (.ref a) (first ++ vs) []) Q E s₁) (P := fun V => repV g.ν V (.ref i) (.ref a) /\ reps g.ν V ff first) (R' := repV g.ν) (f' := fun as => F (.ref i) (ff ++ as))
  hP ((qb2 (pos := pos) hs).weak fun _ _ => trivial) (fun as vs => fun A VA st₁ s₁ hAA hpA I₁ hbA Q E hq he => by
   obtain ⟨⟨hbu, hf1⟩, hr⟩ := hpA
   obtain ⟨i', k, cells, d, c, e1, e2⟩ := hsh _ _ hbA
   cases e1
   obtain ⟨a', o, q1, q2, q3, ⟨fd, f1, f2, _⟩⟩ := I₁.obj e2 hbu
   obtain rfl := Value.ref.inj q1
   exact ⟨⟨o, fd, q3, f2⟩, (hF (ff ++ as) (first ++ vs)).toW A VA st₁ s₁ hAA ⟨hbu, reps.app hf1 hr⟩ I₁ hbA Q E hq he⟩)
 have Z := W A V st s hA hp0 I hb _ _ (fun _ _ q => q) fun _ _ q => q
 refine xl9 ?_
 induction es with
 | nil =>
  induction fs with
  | cons => exact hs.elim
  | nil =>
   refine qf7 ?_
   have hb' : F (.ref i) (ff ++ []) st ≠ .bad := hb
   obtain ⟨i', k, cells, d, c, e1, e2⟩ := hsh _ _ hb'
   cases e1
   obtain ⟨a', o, q1, q2, q3, ⟨fd, f1, f2, _⟩⟩ := I.obj e2 ⟨a, ha, rfl⟩
   obtain rfl := Value.ref.inj q1
   have := hF (ff ++ []) (first ++ []) A V st s hA ⟨⟨a, ha, rfl⟩, by simpa using hff⟩ I hb'
   exact ⟨⟨o, fd, q3, f2⟩, this⟩
 | cons e r =>
  induction fs with
  | nil => exact hs.elim
  | cons f fr =>
   obtain ⟨x, rest, e1, e2⟩ := w6q (pos := pos) hs.2.1
   rw [e1] at Z ⊢
   exact evalArgs_plain Z
theorem jf9 {x : Str} {p pos : Pos} {es : List Expr} {fs : List (AM AV)} {fx : AM AV} {F : AV -> List AV -> AM AV} (hx : RefE g prog cx n (.Name x p) fx) (hs : qc0 g prog cx n es fs) (hsh : ∀ b as st, F b as st ≠ .bad -> zm8 b st)
 (hF : ∀ b u as vs, RefX g prog cx n (fun V => repV g.ν V b u /\ reps g.ν V as vs) (repV g.ν) (call u vs) (F b as)) : RefE g prog cx n (.Call (.Name x p) es [] pos) (fx.bind fun b => xr2 F b [] fs) := by
 refine RefW.toX (fun A Q E s h => wpAny_Call_Name_kw h) ?_
 refine RefW.nest Mono.true hx fun b u => ?_
 exact RefX.toW ((xw2 (first := []) (ff := []) hs (hsh b) (hF b u)).weak fun _ h => ⟨h.2, trivial⟩)
theorem xw1 {u : Value} {es : List Expr} {fs : List (AM AV)} {pos : Pos} (hs : qc0 g prog cx n es fs) :
 RefX g prog cx n TT (fun V as (x : Args) => x.kw = [] /\ reps g.ν V as x.pos) (evalArgs u true (backTo pos (starEach es cx.env)) []) (q8q fs) := by
 intro A V st s hA hp I hb
 have Z := qb2 (pos := pos) hs A V st s hA hp I hb
 induction es with
 | nil =>
  induction fs with
  | cons => exact hs.elim
  | nil => exact qf7 ⟨[], st, V, rfl, ⟨rfl, trivial⟩, I, Ext.refl _ _ _⟩
 | cons e r =>
  induction fs with
  | nil => exact hs.elim
  | cons f fr =>
   obtain ⟨x, rest, e1, e2⟩ := w6q (pos := pos) hs.2.1
   rw [e1] at Z ⊢
   refine evalArgs_plain (w3z Z ?_ fun _ _ q => q)
   rintro vs s₁ ⟨b, st₁, VA, e, hr, I₁, XA⟩
   exact ⟨b, st₁, VA, e, ⟨rfl, hr⟩, I₁, XA⟩
noncomputable def qj0 (k : Nat) (fs : List (AM AV)) : AM AF := (q8q fs).bind fun as => match Nat.ble as.length 100 with
 | true => fun st => .exc k st
 | false => AM.fail
theorem zc6 {V : List Addr} {st : St} {s : Shared} (I : Inv g cx V st s) {h' : Heap} {e t : Addr} {c : Value} {k : Nat} (hc : c = qx5 k) (hk : ∀ b o, s.heap.get? b = some o -> h'.get? b = some o) (hn : s.heap.get? e = none)
 (ho : h'.get? e = some { cls := c, data := .fields #[.ref t, .none, .none, .none, .bool false, .none] }) {β : Type} : EOk g cx V s (.exc k st : Out β) (.ref e) { s with heap := h' } := by
 have S : Slid cx (fun _ => False) s.heap h' := Slid.plain fun b o e _ => hk b o e
 have nn := I.none_of hn
 exact ⟨k, st, V, rfl, ⟨e, _, _, rfl, hn, nn.2.2.2, nn.2.2.1, nn.2.1, ho, hc, rfl, Nat.le_refl 6, .inl rfl⟩, I.slid s.toks (fun _ z => z.elim) S, qq1 (Ext.refl _ _ _) (fun _ z => z.elim) S⟩
theorem qs4 {x : Str} {np cpos pos : Pos} {es : List Expr} {fs : List (AM AV)} {k : Nat} {cls newId initId : String} (hq : cx.q = true) (hc : (.type cls : Value) = qx5 k) (F : ExcCallFacts cls newId initId) (G : ExcRaiseFacts cls)
 (hx : RefE g prog cx n (.Name x np) (AM.ret (.stat (.type cls)))) (hs : qc0 g prog cx n es fs) : RefS g prog cx n (.Raise (some (.Call (.Name x np) es [] cpos)) none pos) (qj0 k fs) := by
 intro A V st s hA hp I hb
 refine wpAny_Raise_call F G (hA.quiet hq) (u0q hs) (w3z (hx A V st s hA trivial I (fun z => nomatch z)) ?_ ?_)
 . rintro v s₁ ⟨b, st₁, VA, e, hr, I₁, XA⟩
   obtain ⟨rfl, rfl⟩ := z7q e
   subst hr
   refine ⟨rfl, ?_⟩
   have W := RefW.nest (K := fun (a : Args) A (Q : Flow -> Shared -> Prop) (E : VP) sB => a.kw = [] /\ a.pos.length <= sizeLine /\ ∀ h' e, Heap.MadeExc sB.heap h' e cls a.pos -> E (.ref e) { sB with heap := h' }) (P := TT) (R' := repF g.ν)
    (f' := fun as => match Nat.ble as.length 100 with
     | true => (fun st => .exc k st : AM AF)
     | false => AM.fail) Mono.true (xw1 (u := .type cls) (pos := cpos) hs) (fun as a => ?_)
   . have Z := W A VA st s₁ hA trivial I₁ hb _ _ (fun _ _ q => q) fun _ _ q => q
     refine w3z Z (fun _ _ q => ⟨q.1, q.2.1, fun h' e hm => ?_⟩) ?_
     . obtain ⟨c, stB, VB, eB, hrB, IB, XB⟩ := q.2.2 h' e hm
       exact ⟨c, stB, VB, eB, hrB.mono XA XB.pre, IB, XA.trans XB⟩
     . rintro w sB ⟨c, stB, VB, eB, hrB, IB, XB⟩
       exact ⟨c, stB, VB, eB, hrB.mono XA XB.pre, IB, XA.trans XB⟩
   . intro A VB stB sB hAB hpB IB hbB Q E hqB he
     induction hl : Nat.ble as.length 100 with
     | false => exact q3q (hl ▸ hbB)
     | true =>
      rw [hl] at he
      have hlen := hpB.2.2.length
      have hle := w5z hl
      refine ⟨hpB.2.1, ?_, fun h' e hm => ?_⟩
      . have : (100 : Nat) <= sizeLine := by decide
        exact Nat.le_trans (Nat.le_of_eq (Eq.symm (by assumption))) (Nat.le_trans (by assumption) (by decide))
      . obtain ⟨t, ht, _, _⟩ := hm.there
        exact he _ _ (zc6 IB hc hm.keeps hm.new ht)
 . rintro w sB ⟨c, stB, VB, eB, hrB, IB, XB⟩
   exact qj7 eB
noncomputable abbrev Cx.busy (cx : Cx) : Cx := { cx with q := false }
theorem Inv.busy {V : List Addr} {st : St} {s : Shared} (I : Inv g cx V st s) : Inv g cx.busy V st s := ⟨I.base, I.own, I.nodup, I.live, I.heap, I.size, I.loc, I.lnew, I.cells, I.frs, I.gens, I.drawn, I.os, I.tabs⟩
theorem Inv.unbusy {V : List Addr} {st : St} {s : Shared} (I : Inv g cx.busy V st s) : Inv g cx V st s := ⟨I.base, I.own, I.nodup, I.live, I.heap, I.size, I.loc, I.lnew, I.cells, I.frs, I.gens, I.drawn, I.os, I.tabs⟩
theorem Ext.unbusy {V ρ' : List Addr} {h h' : Heap} (X : Ext cx.busy V h ρ' h') : Ext cx V h ρ' h' := ⟨X.pre, X.fresh, X.keep⟩
theorem AOk.busy {A : Around} {e : Value} (h : AOk cx n A) : AOk cx.busy n (A.mark (some e)) := ⟨h.frames, h.depth, h.units, fun q => nomatch q⟩
noncomputable def qy2 (g : Gl) (prog : Program) (k : Nat) (c : Value) : Prop := ∀ (A : Around) (Q : Bool -> Shared -> Prop) (E : VP) (s : Shared) (a : Addr) (o : Obj),
 s.heap.get? a = some o -> o.cls = qx5 k -> (∀ b o, g.U.get? b = some o -> s.heap.get? b = some o) -> Q true s -> wpAny (model prog g.w) A (excMatches (.ref a) c) Q E s
theorem ExcTr.along {h0 h₁ h₂ : Heap} {VA VB : List Addr} {cls e : Value} (x : ExcTr h0 VA cx cls e h₁) (X : Ext cx VA h₁ VB h₂) : ExcTr h0 VB cx cls e h₂ := by
 obtain ⟨a, o, vs, t, ot, ts, rfl, ⟨a1, a2, a3, a4⟩, ⟨t1, t2, t3, t4⟩, h2, h3, h4, h5, h6, h7, h8, h9, h10⟩ := x
 have na : a ∉ VB := fun z => by have := (X.fresh a z a2).1; exact k2q (h3.symm.trans this)
 have nt : t ∉ VB := fun z => by have := (X.fresh t z t2).1; exact k2q (h8.symm.trans this)
 exact ⟨a, o, vs, t, ot, ts, rfl, ⟨a1, na, a3, a4⟩, ⟨t1, nt, t3, t4⟩, h2, (X.keep a o h3 a2 a4).1 a3, h4, h5, h6, h7, (X.keep t ot h8 t2 t4).1 t3, h9, h10⟩
noncomputable def tryM (k : Nat) (f h : AM AF) : AM AF := fun st => match f st with
 | .ok b st' => .ok b st'
 | .exc j st' => match Nat.beq j k with
  | true => match h st' with
   | .ok b stB => .ok b stB
   | _ => .bad
  | false => .bad
 | .bad => .bad
theorem jf5 {k : Nat} {body : List Stmt} {t : Expr} {bO : Stmt} {suite : List Stmt} {hpos pos : Pos} {f h : AM AF} {c : Value} (hC : CxOk cx) (hm : qy2 g prog k c) (hbody : RefB g prog cx n body f)
 (ht : RefE g prog cx.busy n t (AM.ret (.stat c))) (hh : RefB g prog cx.busy n (bO :: suite) h) :
 RefS g prog cx n (.Try body [.ExceptHandler (some t) none (bO :: suite) hpos] [] [] pos) (tryM k f h) := by
 intro A V st s hA hp I hb
 have hb1 : f st ≠ .bad := fun e => hb (by unfold tryM; rw [e])
 refine wpAny_Try_except (w3z (hbody A V st s hA trivial I hb1) ?_ ?_)
 . rintro v s₁ ⟨b, st₁, VA, e, hr, I₁, XA⟩
   have hf : tryM k f h st = .ok b st₁ := by unfold tryM; rw [e]
   rw [hf]
   induction b with
   | next => subst hr; exact wpAny_execs_nil ⟨AF.next, st₁, VA, rfl, rfl, I₁, XA⟩
   | brk => subst hr; exact ⟨AF.brk, st₁, VA, rfl, rfl, I₁, XA⟩
   | cont => subst hr; exact ⟨AF.cont, st₁, VA, rfl, rfl, I₁, XA⟩
   | ret a => obtain ⟨u, rfl, hu⟩ := hr; exact ⟨AF.ret a, st₁, VA, rfl, ⟨u, rfl, hu⟩, I₁, XA⟩
 . rintro e s₁ ⟨j, st₁, VA, eA, hx, I₁, XA⟩
   have hf : tryM k f h st = (match Nat.beq j k with
    | true => match h st₁ with
     | .ok b stB => .ok b stB
     | _ => .bad
    | false => .bad) := by unfold tryM; rw [eA]
   rw [hf] at hb ⊢
   induction hj : Nat.beq j k with
   | false => exact q3q (hj ▸ hb)
   | true =>
    rw [hj] at hb
    obtain rfl := Nat.eq_of_beq_eq_true hj
    have hb0 : ∀ b, s.heap.get? b = none -> g.U.get? b = none := qe7 I
    refine xd4 hC hA.frames I₁ XA hb0 hx fun sB xB IB XB => qa3 IB XB hb0 xB fun sC xC IC XC => ?_
    have xC' := xC
    obtain ⟨a, o, vs, t', ot, ts, rfl, _, _, h2, h3, h4, _⟩ := xC'
    have hne : (Value.ref a) ≠ byPass := by intro q; cases q
    refine wpAny_handleBy_cons (codeAny_handlers_test (w3z (ht (A.mark (some (.ref a))) VA st₁ sC hA.busy trivial IC.busy (fun z => nomatch z)) ?_ ?_)) hne
    . rintro v sD ⟨b, stD, VD, eD, hr, ID, XD⟩
      obtain ⟨rfl, rfl⟩ := z7q eD
      subst hr
      have xD := xC.along XD.unbusy
      have xD' := xD
      obtain ⟨a', o', vs', t'', ot', ts', ea, _, _, q2, q3, q4, _⟩ := xD'
      obtain rfl := Value.ref.inj ea
      refine hm _ _ _ sD a o' q3 q4 ID.base ?_
      refine codeAny_handlers_suite (qa3 ID.unbusy (XC.trans XD.unbusy) hb0 xD fun sE xE IE XE => ?_)
      have hb2 : h st₁ ≠ .bad := fun e => by rw [e] at hb; exact hb rfl
      refine w3z (hh (A.mark (some (.ref a))) VD st₁ sE hA.busy trivial IE.busy hb2) ?_ ?_
      . rintro v sF ⟨b, st₆, VF, eF, hrF, IF, XF⟩
        rw [eF]
        exact ⟨b, st₆, VF, rfl, hrF, IF.unbusy, XE.trans XF.unbusy⟩
      . rintro v sF ⟨b, st₆, VF, eF, hrF, IF, XF⟩
        rw [eF] at hb
        exact q3q hb
    . rintro w sB ⟨c, stB, VB, eB, _⟩
      exact qj7 eB
end
section
variable {M : Model} {A : Around} {E : VP} {h : Heap} {g : Array GenState} {d : Drawn} {t : Nat} {os : OsState}
theorem xp6 {ns : Addr} {name : Str} {m : Str -> Option Value} {r : Option Value} {Q : Option Value -> Shared -> Prop} (hn : h.Ns ns m)
 (hv : m name = r) (hq : Q r ⟨h, g, d, t, os⟩) : wpAny M A (nsGet ns name) Q E ⟨h, g, d, t, os⟩ := wpAny_nsGet hn (hv ▸ hq)
theorem qz4 {a : Addr} {part : Option Value} {o : Obj} {Q : Obj -> Shared -> Prop} (ho : h.get? a = some o) (hq : Q o ⟨h, g, d, t, os⟩) :
 wpAny M A (loadPart a part) Q E ⟨h, g, d, t, os⟩ := wpAny_loadPart ho hq
end
theorem qh0 : Slot "function" "__getattribute__" "object.__getattribute__" :=
 .of (owner := "object") (n := "__getattribute__") (by rw [typeLookup_type, builtinLookup_eq_fast]; kernel_rfl) (by decide +kernel) (by decide +kernel) (by decide +kernel)
  (by first | exact .inl (by decide +kernel) | exact .inr (by decide +kernel)) (by rw [isSubtype_type]; kernel_rfl)
theorem ql7 : Slot "function" "__setattr__" "object.__setattr__" :=
 .of (owner := "object") (n := "__setattr__") (by rw [typeLookup_type, builtinLookup_eq_fast]; kernel_rfl) (by decide +kernel) (by decide +kernel) (by decide +kernel)
  (by first | exact .inl (by decide +kernel) | exact .inr (by decide +kernel)) (by rw [isSubtype_type]; kernel_rfl)
theorem qq0 : typeLookup (.type "function") "__getattr__" = pure none := by rw [typeLookup_type, builtinLookup_eq_fast]; kernel_rfl
theorem xf5 : isSubtype (.type "function") (.type "staticmethod") = pure false := by rw [isSubtype_type]; kernel_rfl
theorem xf6 : isSubtype (.type "function") (.type "classmethod") = pure false := by rw [isSubtype_type]; kernel_rfl
theorem xy9 (a b : Value) : argsOk "object.__getattribute__" ⟨[a, b], []⟩ := by unfold argsOk; kernel_rfl
theorem xy8 (a b c : Value) : argsOk "object.__setattr__" ⟨[a, b, c], []⟩ := by unfold argsOk; kernel_rfl
theorem zn8 : (Manifest.canonical "object.__getattribute__" != "object.__getattribute__") = false := by decide +kernel
section
variable {prog : Program} {w : World} {A : Around} {E : VP} {h : Heap} {g : Array GenState} {d : Drawn} {t : Nat} {os : OsState} {x D : Addr} {md : Str -> Option Value} {fd : FuncData} {sl : Array (Option Value)}
theorem zn7 {name : Str} {tk : Tok} {v : Value} {Q : Fin -> Shared -> Prop} (hM : h.get? x = some { cls := .type "function", dict := some D, data := .func fd, slots := sl }) (hD : h.Ns D md) (hnm : typeLookup (.type "function") name = pure none) (hv : md name = some v)
 (hq : Q (.done (.ret v)) ⟨h, g, d, t, os⟩) : wpAny (model prog w) A (Builtin.«object.__getattribute__» ⟨[.ref x, .str name tk], []⟩) Q E ⟨h, g, d, t, os⟩ := by
 have hT : (⟨h, g, d, t, os⟩ : Shared).TypeIs (.ref x) "function" := ⟨_, hM, rfl⟩
 have f1 := xf5
 have f2 := xf6
 repeat (any_goals (first | assumption | with_reducible apply xp6 | with_reducible apply qz4 | wp_step))
theorem xy7 {name : Str} {v : Value} {ex : Bool} {Q : VP} (hM : h.get? x = some { cls := .type "function", dict := some D, data := .func fd, slots := sl }) (hD : h.Ns D md) (hnm : typeLookup (.type "function") name = pure none) (hv : md name = some v)
 (hh : handedOut v = pure v) (hq : Q v ⟨h, g, d, t + 1, os⟩) : wpAny (model prog w) A (getAttr (.ref x) name ex) Q E ⟨h, g, d, t, os⟩ := by
 have hT : (⟨h, g, d, t, os⟩ : Shared).TypeIs (.ref x) "function" := ⟨_, hM, rfl⟩
 have hT1 : (⟨h, g, d, t + 1, os⟩ : Shared).TypeIs (.ref x) "function" := ⟨_, hM, rfl⟩
 have f1 := qh0.lookup
 have f2 := qq0
 have f4 := qh0.bind (.ref x)
 cases ex
 all_goals (
  repeat (any_goals (first | assumption | wp_step))
  refine codeAny_call_builtin qh0.plain F.entry_object_getattribute (qh0.check _ _ _ _ _ _ _ _ hT1 (xy9 _ _) (zn7 hM hD hnm hv ?_))
  repeat (any_goals (first | assumption | wp_step)))
end
section
open PySem.Builtin.ObjectAttr
theorem xv1 : StoreFacts "function" [.type "function", .type "object"] "object.__setattr__" "object" where
 mro := by kernel_rfl
 slot := ql7
 entry := F.store_object.entry
 kind := by decide +kernel
 split := by decide +kernel
 hasOwner := by decide +kernel
 args := fun a b c => by unfold argsOk; kernel_rfl
 passes := fun self => by kernel_rfl
section
variable {prog : Program} {w : World} {A : Around} {E : VP} {h : Heap} {g : Array GenState} {d : Drawn} {t : Nat} {os : OsState} {x D : Addr} {md : Str -> Option Value} {fd : FuncData} {sl : Array (Option Value)}
theorem xl2 {name : Str} {tk : Tok} {v : Value} {Q : Fin -> Shared -> Prop} (hM : h.get? x = some { cls := .type "function", dict := none, data := .func fd, slots := sl }) (hnm : typeLookup (.type "function") name = pure none)
 (hq : ∀ h' D tk' t', h.get? D = none -> h'.get? D = some ⟨.type "dict", none, .dict #[⟨hashStr w name, .str name t', v⟩] 1, #[]⟩ -> h'.get? x = some { cls := .type "function", dict := some D, data := .func fd, slots := sl } ->
  (∀ b o, b ≠ x -> h.get? b = some o -> h'.get? b = some o) -> Q (.done (.ret .none)) ⟨h', g, d, tk', os⟩) :
 wpAny (model prog w) A (Builtin.«object.__setattr__» ⟨[.ref x, .str name tk, v], []⟩) Q E ⟨h, g, d, t, os⟩ := by
 have hT : (⟨h, g, d, t, os⟩ : Shared).TypeIs (.ref x) "function" := ⟨_, hM, rfl⟩
 rw [osa_eq, refuse_eq]
 refine w0z (w0z (wpAny_typeOf hT ?_))
 rw [xv1.mro]
 refine w0z (w2z ?_)
 rw [xv1.passes]
 refine w2z (w0z (wpAny_typeOf hT ?_))
 rw [hnm]
 refine w0z (w2z ?_)
 refine w0z (w2z ?_)
 show wpAny _ _ (storeInOwnDict (.ref x) (.type "function") (.str name tk) name v false) Q E _
 unfold storeInOwnDict
 refine w0z (w2z ?_)
 rw [if_neg (by decide)]
 unfold ownDictForStores instanceDict
 refine w0z (w0z (wpAny_loadPart hM ?_))
 dsimp only
 rw [if_neg (by decide +kernel)]
 refine w0z (wpAny_alloc ?_)
 have hx1 : (h.push { cls := .type "dict", data := .dict #[] }).get? x = some { cls := .type "function", dict := none, data := .func fd, slots := sl } := w6z _ hM
 have hlt := Heap.lt_size hM
 have hne : x ≠ h.objs.size := Nat.ne_of_lt hlt
 refine w0z (wpAny_update hx1 ?_)
 have D1 : ((h.push { cls := .type "dict", data := .dict #[] }).update x fun o => { cls := o.cls, dict := some h.objs.size, data := o.data, slots := o.slots }).get? h.objs.size = some { cls := .type "dict", data := .dict #[] } :=
  (Heap.get?_update_other _ _ hne).trans (Heap.get?_push_size h rfl)
 have X1 := Heap.get?_update_self (fun o : Obj => { cls := o.cls, dict := some h.objs.size, data := o.data, slots := o.slots }) hx1 rfl
 unfold dictMade
 dsimp only
 rw [if_neg (by decide +kernel)]
 refine w2z ?_
 skip
 unfold storeInDict
 refine w0z (w2z (w0z ?_))
 unfold nsSet
 refine w0z (w0z (wpAny_askSetting (w2z (w0z (wpAny_mkText (w0z (wpAny_loadPart D1 ?_)))))))
 dsimp only
 rw [aRefKeyMayBeTheName_at]
 rw [if_neg (by simp)]
 refine wpAny_updatePart D1 ?_
 have D2 := Heap.get?_update_self (Obj.putName name (PyData.keyHash w.params name) (.str name t) v) D1 (by rfl)
 refine w0z (wpAny_lookBehind D2 (pastItsLine_dict (Nat.succ_le_succ (Nat.zero_le _))) ?_)
 refine w2z (hq _ h.objs.size _ t ?_ D2 ((Heap.get?_update_other _ _ (Ne.symm hne)).trans X1) fun b o hb e => ?_)
 . exact Heap.get?_none_of_le (Nat.le_refl _)
 . have : b ≠ h.objs.size := Nat.ne_of_lt (Heap.lt_size e)
   rw [Heap.get?_update_other _ _ (Ne.symm this), Heap.get?_update_other _ _ (Ne.symm hb)]
   exact w6z _ e
theorem xy6 {name : Str} {v : Value} {Q : Unit -> Shared -> Prop} (hM : h.get? x = some { cls := .type "function", dict := none, data := .func fd, slots := sl }) (hnm : typeLookup (.type "function") name = pure none)
 (hq : ∀ h' D tk' t', h.get? D = none -> h'.get? D = some ⟨.type "dict", none, .dict #[⟨hashStr w name, .str name t', v⟩] 1, #[]⟩ -> h'.get? x = some { cls := .type "function", dict := some D, data := .func fd, slots := sl } ->
  (∀ b o, b ≠ x -> h.get? b = some o -> h'.get? b = some o) -> Q () ⟨h', g, d, tk', os⟩) :
 wpAny (model prog w) A (setAttr (.ref x) name v) Q E ⟨h, g, d, t, os⟩ := by
 have hT : (⟨h, g, d, t + 1, os⟩ : Shared).TypeIs (.ref x) "function" := ⟨_, hM, rfl⟩
 unfold setAttr
 refine w0z (wpAny_mkText (w0z ?_))
 refine wpAny_callSpecial?_slot (T := "function") (id := "object.__setattr__") hT ql7 ?_
 refine wpAny_call ?_
 refine codeAny_call_builtin ql7.plain F.store_object.entry (ql7.check _ _ _ _ _ _ _ _ hT (xy8 _ _ _) (xl2 hM hnm fun h' D tk' t' h1 h2 h3 h4 => ?_))
 exact w2z (hq h' D tk' t' h1 h2 h3 h4)
end
end
section
variable {g : Gl} {prog : Program} {cx : Cx} {n : Nat}
noncomputable def zi7 (g : Gl) (prog : Program) (cx : Cx) (n : Nat) (attr : Str) (F : AV -> AV -> AM Unit) : Prop :=
 ∀ a v u x, RefX g prog cx n (fun V => repV g.ν V v x /\ repV g.ν V a u) qv0 (setAttr u attr x) (F a v)
noncomputable def zi9 (g : Gl) (prog : Program) (cx : Cx) (n : Nat) (attr : Str) (F : AV -> AM AV) : Prop :=
 ∀ a u, RefX g prog cx n (fun V => repV g.ν V a u) (repV g.ν) (getAttr u attr true) (F a)
theorem w7q {o value : Expr} {attr : Str} {p pos : Pos} {fv fo : AM AV} {F : AV -> AV -> AM Unit} (hF : zi7 g prog cx n attr F) (hs : swapsWith value (some (.Attribute o attr p)) pos.line cx.env = pure false) (hv : RefE g prog cx n value fv) (ho : RefE g prog cx n o fo) :
 RefS g prog cx n (.Assign [.Attribute o attr p] value pos) (fv.bind fun v => fo.bind fun a => (F a v).bind fun _ => AM.ret .next) := by
 refine RefW.toX (fun A Q E s h => plainObj_wpAny_Assign_Attribute h hs) ?_
 refine RefW.nest Mono.true hv fun v x => ?_
 refine RefW.nest (Mono.and Mono.true (z6q _ _ _)) (ho.weak fun _ _ => trivial) fun a u => ?_
 refine RefW.nest (K := fun _ _ (Q : Flow -> Shared -> Prop) _ s => Q .next s) (Mono.and (Mono.and Mono.true (z6q _ _ _)) (z6q _ _ _)) ((hF a v u x).weak fun _ h => ⟨h.1.2, h.2⟩) fun _ _ => ?_
 exact RefW.done fun _ _ => rfl
theorem w0q {o : Expr} {attr : Str} {pos : Pos} {fo : AM AV} {F : AV -> AM AV} (hF : zi9 g prog cx n attr F) (he : ∀ A Q E s, wpAny (model prog g.w) A (eval o cx.env) (fun ov s₁ => wpAny (model prog g.w) A (getAttr ov attr true) Q E s₁) E s -> wpAny (model prog g.w) A (eval (.Attribute o attr pos) cx.env) Q E s)
 (ho : RefE g prog cx n o fo) : RefE g prog cx n (.Attribute o attr pos) (fo.bind F) := by
 refine RefW.toX he ?_
 refine RefW.nest Mono.true ho fun a u => ?_
 exact RefX.toW ((hF a u).weak fun _ h => h.2)
noncomputable def zc0 (name : List Nat) (a v : AV) : AM Unit := match a with
 | .ref i => fun st => match st.H.t.get i with
  | some (.fn k cells none c) => match Nat.blt st.H.n z5q with
   | true => match Nat.blt i z5q with
    | true => .ok () { st with H := (st.H.push (.dict [(name, v)] 1)).set i (.fn k cells (some st.H.n) c) }
    | false => .bad
   | false => .bad
  | _ => .bad
 | _ => AM.fail
theorem zk1 {name : List Nat} (hnm : typeLookup (.type "function") ⟨name.toArray⟩ = pure none) : zi7 g prog cx n ⟨name.toArray⟩ (zc0 name) := by
 intro a v u x A V st s hA hp I hb
 obtain ⟨hv, hu⟩ := hp
 unfold zc0 at hb ⊢
 obtain ⟨i, rfl⟩ := x7q hb
 dsimp only at hb ⊢
 induction e1 : st.H.t.get i with
 | none => rw [e1] at hb; exact q3q hb
 | some ao =>
  rw [e1] at hb
  obtain ⟨k, cells, d, c, rfl⟩ : ∃ k cells d c, ao = .fn k cells d c := by induction ao <;> first | exact ⟨_, _, _, _, rfl⟩ | exact q3q hb
  induction d with
  | some j => exact q3q hb
  | none =>
   dsimp only at hb ⊢
   induction h1 : Nat.blt st.H.n z5q with
   | false => rw [h1] at hb; exact q3q hb
   | true =>
    induction h2 : Nat.blt i z5q with
    | false => rw [h1, h2] at hb; exact q3q hb
    | true =>
     obtain ⟨y, o, rfl, hy, ho, hr⟩ := I.obj e1 hu
     obtain ⟨fd, f1, f2, f3, f4, g1, g2, g3, g4, g5, g6, cxx, g7, g8⟩ := hr
     obtain ⟨oc, od, oda, osl⟩ := o
     dsimp only at f1 f2 f3 f4
     subst f1 f2 f3 f4
     obtain ⟨hp, gg, dd, tk, os⟩ := s
     refine xy6 ho hnm fun h' D tk' t' q1 q2 q3 q4 => ?_
     have hne : D ≠ y := fun z => by rw [z, ho] at q1; exact k2q q1
     have q3' := Heap.get?_update_self (fun _ : Obj => (⟨.type "function", none, .func fd, #[]⟩ : Obj)) q3 rfl
     have oth : ∀ b, b ≠ y -> (h'.update y fun _ => ⟨.type "function", none, .func fd, #[]⟩).get? b = h'.get? b := fun b hb => Heap.get?_update_other _ _ (Ne.symm hb)
     have A1 := I.alloc tk' (h' := h'.update y fun _ => ⟨.type "function", none, .func fd, #[]⟩) (a := D) (ao := .dict [(name, v)] 1) q1 ((oth D hne).trans q2) (fun b o e => by
      by_cases z : b = y
      . subst z; rw [ho] at e; obtain rfl := w4z e; exact q3'
      . rw [oth b z]; exact q4 b o z e) ⟨[_], ⟨⟨⟨t', rfl⟩, rfl⟩, hv.mono ⟨[D], rfl⟩, trivial⟩, by simp, rfl⟩ h1
     have B1 := A1.1.upd2 (h' := h') tk' (A1.2.pre.get hy) (o := ⟨.type "function", some D, .func fd, #[]⟩) (ao := .fn k cells (some st.H.n) c) (fun b o e z => by rw [<- oth b z]; exact e) q3
      (by
       exact ⟨fd, rfl, rfl, rfl, ⟨D, by rw [I.size]; simp, rfl⟩, g1, g2, g3, g4, g5, g6.mono ⟨[D], rfl⟩, cxx, A1.2.pre.get g7, g8⟩) h2
     exact ⟨(), _, _, rfl, trivial, B1.1, A1.2.trans B1.2⟩
theorem qv5 {V : List Addr} (k : List Nat) : ∀ {es : List (List Nat × AV)} {fs : List DictEntry}, k1q g V es fs -> w5q g.ν V (z4q es k) ((fs.find? fun e => e.key.isStr ⟨k.toArray⟩).map (·.val))
 | [], [], _ => trivial
 | [], _ :: _, h => h.elim
 | _ :: _, [], h => h.elim
 | a :: l, e :: r, h => by
  obtain ⟨⟨⟨t, h1⟩, _⟩, h2, h3⟩ := h
  have ih := qv5 k h3
  have e1 : e.key.isStr ⟨k.toArray⟩ = qj5 a.1 k := by rw [h1]; exact xc7 a.1 k
  rw [List.find?_cons, e1]
  unfold z4q at ih ⊢
  rw [v3q]
  induction q : qj5 a.1 k with
  | true => exact h2
  | false =>
   dsimp only
   induction q2 : v3q l k with
   | none => rw [q2] at ih; exact ih
   | some i => rw [q2] at ih; simpa using ih
theorem xp5 {V : List Addr} : ∀ {es : List (List Nat × AV)} {fs : List DictEntry}, k1q g V es fs -> ∀ e ∈ fs, ∃ n t, e.key = .str n t
 | [], [], _, _, h => by cases h
 | [], _ :: _, h, _, _ => h.elim
 | _ :: _, [], h, _, _ => h.elim
 | a :: l, e :: r, h, x, hx => by
  rcases List.mem_cons.mp hx with q | q
  . subst q
    obtain ⟨⟨⟨t, h1⟩, _⟩, _⟩ := h
    exact ⟨_, _, h1⟩
  . exact xp5 h.2.2 x q
theorem ns_of {V : List Addr} {h : Heap} {D : Addr} {o : Obj} {es : List (List Nat × AV)} {ep : Nat} (ho : h.get? D = some o) (hr : j2q g V o (.dict es ep)) :
 ∃ md, h.Ns D md /\ ∀ k : List Nat, w5q g.ν V (z4q es k) (md ⟨k.toArray⟩) := by
 obtain ⟨fs, h1, h2, rfl⟩ := hr
 refine ⟨nsFind fs.toArray, ⟨_, _, _, ho, rfl, fun e he => xp5 h1 e (by simpa using he), fun _ => rfl⟩, fun k => ?_⟩
 have := qv5 k h1
 unfold nsFind findBy
 simpa using this
end
section
variable {prog : Program} {w : World} {A : Around} {E : VP} {h : Heap} {g : Array GenState} {d : Drawn} {t : Nat} {os : OsState} {x D : Addr} {md : Str -> Option Value} {fd : FuncData} {sl : Array (Option Value)}
theorem xl3 {name : Str} {v : Value} {pl : Sem Bool} {Q : Value × List Value -> Shared -> Prop} (hM : h.get? x = some { cls := .type "function", dict := some D, data := .func fd, slots := sl }) (hD : h.Ns D md) (hnm : typeLookup (.type "function") name = pure none) (hv : md name = some v)
 (hh : handedOut v = pure v) (hq : Q (v, []) ⟨h, g, d, t + 1, os⟩) : wpAny (model prog w) A (getMethod (.ref x) name pl) Q E ⟨h, g, d, t, os⟩ := by
 have hT : (⟨h, g, d, t, os⟩ : Shared).TypeIs (.ref x) "function" := ⟨_, hM, rfl⟩
 unfold getMethod
 refine w0z (wpAny_specialOf hT qh0.lookup ?_)
 show wpAny _ A (if (Manifest.canonical "object.__getattribute__" != "object.__getattribute__") = true then _ else _) Q E _
 rw [zn8, if_neg (by decide)]
 refine w0z (wpAny_specialOf hT qq0 ?_)
 rw [if_neg (by decide)]
 refine w0z (wpAny_specialOf hT hnm ?_)
 exact w0z (xy7 hM hD hnm hv hh (w2z hq))
end
section
variable {g : Gl} {prog : Program} {cx : Cx} {n : Nat}
noncomputable def xu8 (name : List Nat) (a : AV) (k : AV -> AM AV) : AM AV := match a with
 | .ref i => fun st => match st.H.t.get i with
  | some (.fn _ _ (some d) _) => match st.H.t.get d with
   | some (.dict es _) => match z4q es name with
    | some (.ref j) => k (.ref j) st
    | _ => .bad
   | _ => .bad
  | _ => .bad
 | _ => AM.fail
theorem zj2 {o : Expr} {name : List Nat} {apos pos : Pos} {es : List Expr} {f : AM AV} {fs : List (AM AV)} {F : AV -> List AV -> AM AV} (hnm : typeLookup (.type "function") ⟨name.toArray⟩ = pure none) (hsh : ∀ b as st, F b as st ≠ .bad -> zm8 b st)
 (hF : ∀ b u as vs, RefX g prog cx n (fun V => repV g.ν V b u /\ reps g.ν V as vs) (repV g.ν) (call u vs) (F b as))
 (h : RefE g prog cx n o f) (hs : qc0 g prog cx n es fs) (pl : Sem Bool) (he : eval (.Call (.Attribute o ⟨name.toArray⟩ apos) es [] pos) cx.env = (do
  let ov <- eval o cx.env
  standAt apos.atName
  let (f, first) <- holding [ov] (getMethod ov ⟨name.toArray⟩ pl)
  callWith pos f first (backTo pos (starEach es cx.env)) [])) : RefE g prog cx n (.Call (.Attribute o ⟨name.toArray⟩ apos) es [] pos) (f.bind fun a => xu8 name a fun b => xr2 F b [] fs) := by
 refine RefW.toX (fun A Q E s h => MethodCall_ h he) ?_
 refine RefW.nest Mono.true h fun a u => ?_
 intro A V st s hA hp I hb Q E hq hx
 have hu := hp.2
 unfold xu8 at hb hq hx
 obtain ⟨i, rfl⟩ : ∃ i, a = .ref i := by induction a <;> first | exact ⟨_, rfl⟩ | exact q3q hb
 dsimp only at hb hq hx
 induction e1 : st.H.t.get i with
 | none => exact q3q (e1 ▸ hb)
 | some ao =>
  rw [e1] at hb hq hx
  obtain ⟨k, cells, d, c, rfl⟩ : ∃ k cells d c, ao = .fn k cells d c := by induction ao <;> first | exact ⟨_, _, _, _, rfl⟩ | exact q3q hb
  induction d with
  | none => exact q3q hb
  | some d =>
   dsimp only at hb hq hx
   induction e2 : st.H.t.get d with
   | none => exact q3q (e2 ▸ hb)
   | some ad =>
    rw [e2] at hb hq hx
    obtain ⟨es', ep, rfl⟩ : ∃ es' ep, ad = .dict es' ep := by induction ad <;> first | exact ⟨_, _, rfl⟩ | exact q3q hb
    dsimp only at hb hq hx
    obtain ⟨y, oy, rfl, hy, ho, hr⟩ := I.obj e1 hu
    obtain ⟨fd, f1, f2, f3, ⟨D, f4, f4'⟩, f5⟩ := hr
    obtain ⟨D', oD, hD1, hD2, hD3⟩ := I.heap d _ e2
    obtain rfl := w4z (f4.symm.trans hD1)
    obtain ⟨md, hm, hg⟩ := ns_of hD2 hD3
    have hgk := hg name
    induction e3 : z4q es' name with
    | none => exact q3q (e3 ▸ hb)
    | some v =>
     rw [e3] at hb hq hx hgk
     obtain ⟨j, rfl⟩ : ∃ j, v = .ref j := by induction v <;> first | exact ⟨_, rfl⟩ | exact q3q hb
     dsimp only at hb hq hx
     induction e4 : md ⟨name.toArray⟩ with
     | none => rw [e4] at hgk; exact hgk.elim
     | some w =>
      rw [e4] at hgk
      have hw : repV g.ν V (.ref j) w := hgk
      obtain ⟨z, hz, rfl⟩ := hw
      obtain ⟨oc, od, oda, osl⟩ := oy
      dsimp only at f1 f2 f3 f4'
      subst f1 f2 f3 f4'
      obtain ⟨hp', gg, dd, tk, os⟩ := s
      refine xl3 ho hm hnm e4 rfl ?_
      exact (xw2 (b := .ref j) (u := .ref z) (first := []) (ff := []) hs (hsh (.ref j)) (hF (.ref j) (.ref z))).toW A V st _ hA ⟨⟨z, hz, rfl⟩, trivial⟩ (I.tok (tk + 1)) hb Q E hq hx
end
section
variable {g : Gl} {prog : Program} {cx : Cx} {n : Nat} {K : Frag}
structure InstGet (K : Frag) (C : Addr) (name : Str) : Prop where
 hg : plainGet K C name = true
 hh : hasDictIn K C = true
 ha : findIn K (.ref C) name = some none
noncomputable def qv6 : AV -> Bool
 | .stat _ => false
 | _ => true
theorem xb6 {V : List Addr} {a : AV} {v : Value} (h : repV g.ν V a v) (hs : qv6 a = true) : handedIn v = true := by
 induction a <;> try cases hs
 . subst h; rfl
 . subst h; rfl
 . obtain ⟨t, rfl⟩ := h; rfl
 . obtain ⟨t, rfl⟩ := h; rfl
 . obtain ⟨⟨t, rfl⟩, _⟩ := h; rfl
 . obtain ⟨a, _, rfl⟩ := h; rfl
noncomputable def qf9 (C : Addr) (name : List Nat) (a : AV) : AM AV := match a with
 | .ref i => fun st => match st.H.t.get i with
  | some (.inst c d) => match Nat.beq c C with
   | true => match st.H.t.get d with
    | some (.dict es _) => match z4q es name with
     | some v => match qv6 v with
      | true => .ok v st
      | false => .bad
     | none => .bad
    | _ => .bad
   | false => .bad
  | _ => .bad
 | _ => AM.fail
theorem zn1 {V : List Addr} {k : List Nat} {es : List (List Nat × AV)} {fs : List DictEntry} {v : AV} (h : k1q g V es fs) (e : z4q es k = some v) : ∃ w, repV g.ν V v w /\ lookIn ⟨k.toArray⟩ (dictOf fs ep) = some (some w) := by
 have := qv5 k h
 rw [e] at this
 induction q : fs.find? fun e => e.key.isStr ⟨k.toArray⟩ with
 | none => rw [q] at this; exact this.elim
 | some x =>
  rw [q] at this
  refine ⟨x.val, this, ?_⟩
  unfold lookIn dictOf
  dsimp only
  rw [q]
theorem k5q {C : Addr} {name : List Nat} (X : K.In g.U) (F : InstGet K C ⟨name.toArray⟩) : zi9 g prog cx n ⟨name.toArray⟩ (qf9 C name) := by
 intro a u A V st s hA hu I hb
 unfold qf9 at hb ⊢
 obtain ⟨i, rfl⟩ := x7q hb
 dsimp only at hb ⊢
 obtain ⟨c, d, e1⟩ := xu7 hb
 . rw [e1] at hb
   try rw [e1]
   dsimp only at hb ⊢
   induction hc : Nat.beq c C with
   | false => exact q3q (hc ▸ hb)
   | true =>
    obtain rfl := Nat.eq_of_beq_eq_true hc
    rw [hc] at hb
    dsimp only at hb ⊢
    obtain ⟨es', ep, e2⟩ := qf6 hb
    . rw [e2] at hb
      try rw [e2]
      dsimp only at hb ⊢
      induction e3 : z4q es' name with
      | none => exact q3q (e3 ▸ hb)
      | some v =>
       rw [e3] at hb
       dsimp only at hb ⊢
       induction e4 : qv6 v with
       | false => exact q3q (e4 ▸ hb)
       | true =>
        obtain ⟨y, oy, rfl, hy, ho, ⟨dx, hdx, rfl⟩⟩ := I.obj e1 hu
        obtain ⟨D', oD, hD1, hD2, ⟨fs, r1, r2, rfl⟩⟩ := I.heap d _ e2
        obtain rfl := w4z (hdx.symm.trans hD1)
        obtain ⟨w, hw, hl⟩ := zn1 (ep := ep) r1 e3
        have IA : InstAt s.heap y ⟨.ref c, some dx, .plain, #[]⟩ c (some (dictOf fs ep)) := ⟨ho, rfl, rfl, hD2⟩
        refine get_value (X.keeps I.base) IA (plainGet_of F.hg).1 ?_ (xb6 hw e4) ⟨v, st, V, rfl, hw, I.tok _, Ext.refl _ _ _⟩
        exact findObj_own F.hh F.ha rfl hl
end
section
open PySem.Builtin.ObjectAttr
section
variable {g : Gl} {prog : Program} {cx : Cx} {n : Nat} {K : Frag}
structure InstSet (K : Frag) (C : Addr) (name : Str) : Prop where
 hs : findIn K (.ref C) "__setattr__" = some (some (.builtin "object.__setattr__"))
 hp : plainOver K C = true
 ht : takerIn K C name = some none
 hh : hasDictIn K C = true
theorem qw4 {V : List Addr} : ∀ {es : List (List Nat × AV)} {fs : List DictEntry} (k : List Nat), k1q g V es fs -> fs.findIdx? (fun e => e.key.isStr ⟨k.toArray⟩) = v3q es k
 | [], [], _, _ => rfl
 | [], _ :: _, _, h => h.elim
 | _ :: _, [], _, h => h.elim
 | a :: l, e :: r, k, h => by
  obtain ⟨⟨⟨t, h1⟩, _⟩, _, h3⟩ := h
  have e1 : e.key.isStr ⟨k.toArray⟩ = qj5 a.1 k := by rw [h1]; exact xc7 a.1 k
  rw [List.findIdx?_cons, v3q, e1]
  induction qj5 a.1 k with
  | true => rfl
  | false =>
   rw [if_neg Bool.false_ne_true, qw4 k h3]
   cases v3q l k <;> rfl
theorem qv7 {V : List Addr} {es : List (List Nat × AV)} {fs : List DictEntry} (h : k1q g V es fs) : fs.toArray.any (·.refKey) = false := by
 rw [<- Array.any_toList]
 refine List.any_eq_false.mpr fun e he => ?_
 obtain ⟨n, t, q⟩ := xp5 h e (by simpa using he)
 unfold DictEntry.refKey
 rw [q]
 simp
theorem zk8 {A : Around} {V : List Addr} {st : St} {s : Shared} (I : Inv g cx V st s) {i : Nat} {d : Addr} {es : List (List Nat × AV)} {ep : Nat} {o : Obj} {k : List Nat} {v : AV} {w : Value} {Q : Unit -> Shared -> Prop} {E : VP}
 (h1 : V[i]? = some d) (ho : s.heap.get? d = some o) (hr : j2q g V o (.dict es ep)) (hi : Nat.blt i z5q = true) (hv : repV g.ν V v w)
 (h : ∀ s' o', Inv g cx V { st with H := st.H.set i (.dict (putE es k v) (qz0 es k ep)) } s' -> Ext cx V s.heap V s'.heap -> s'.heap.get? d = some o' -> j2q g V o' (.dict (putE es k v) (qz0 es k ep)) -> Q () s') : wpAny (model prog g.w) A (nsSet d ⟨k.toArray⟩ w) Q E s := by
 obtain ⟨fs, hf, hnd, rfl⟩ := hr
 have R : ∀ t, j2q g V (Obj.putName ⟨k.toArray⟩ (hashStr g.w ⟨k.toArray⟩) (.str ⟨k.toArray⟩ t) w ⟨.type "dict", none, .dict fs.toArray ep, #[]⟩) (.dict (putE es k v) (qz0 es k ep)) := by
  intro t
  rw [Obj.putName_eq]
  unfold Obj.putNameByArray putE qz0
  have hix := qw4 k hf
  simp only [List.findIdx?_toArray, hix]
  induction hq : v3q es k with
  | some j =>
   obtain ⟨a, ha, hak⟩ := qg9 hq
   refine ⟨fs.modify j fun e => { e with val := w }, ?_, ?_, ?_⟩
   . have := hf.set ha hv; rw [hak] at this; exact this
   . have : (es.set j (k, v)).map (·.1) = es.map (·.1) := by
      rw [List.map_set]
      refine xc8 ?_
      rw [List.getElem?_map, ha, Option.map_some, hak]
     rw [this]; exact hnd
   . simp
  | none =>
   refine ⟨_, hf.app (k := k) (t := t) hv, ?_, ?_⟩
   . rw [List.map_append, List.nodup_append]
     refine ⟨hnd, by simp, fun a ha b hb z => qr7 hq ?_⟩
     simp at hb
     rw [<- hb, <- z]; exact ha
   . simp
 unfold nsSet
 refine w0z (w0z (wpAny_askSetting (w2z (w0z (wpAny_mkText (w0z (wpAny_loadPart ho ?_)))))))
 dsimp only
 rw [aRefKeyMayBeTheName_at, qv7 hf, Bool.and_false, if_neg Bool.false_ne_true]
 have hob := (R s.toks).alive
 have hg := Heap.get?_update_self (Obj.putName ⟨k.toArray⟩ (hashStr g.w ⟨k.toArray⟩) (.str ⟨k.toArray⟩ s.toks) w) ho hob
 have Z := I.upd (s.toks + 1) (i := i) (a := d) (ao := .dict (putE es k v) (qz0 es k ep)) h1 (fun b hb => Heap.get?_update_other s.heap _ (Ne.symm hb)) hg (R s.toks) hi
 exact wpAny_updatePart (s := { s with toks := s.toks + 1 }) ho (h _ _ Z.1 Z.2 hg (R s.toks))
noncomputable def xd2 (C : Addr) (name : List Nat) (a v : AV) : AM Unit := match a with
 | .ref i => fun st => match st.H.t.get i with
  | some (.inst c d) => match Nat.beq c C with
   | true => match st.H.t.get d with
    | some (.dict es ep) => match Nat.ble es.length 100 with
     | true => setM d (.dict (putE es name v) (qz0 es name ep)) (AM.ret ()) st
     | false => .bad
    | _ => .bad
   | false => .bad
  | _ => .bad
 | _ => AM.fail
theorem zk4 (es : List (List Nat × AV)) (k : List Nat) (v : AV) : (putE es k v).length <= es.length + 1 := by
 unfold putE
 cases v3q es k <;> simp
theorem qn3 {C : Addr} {name : List Nat} (X : K.In g.U) (F : InstSet K C ⟨name.toArray⟩) : zi7 g prog cx n ⟨name.toArray⟩ (xd2 C name) := by
 intro a v u w A V st s hA hp I hb
 obtain ⟨hv, hu⟩ := hp
 unfold xd2 at hb ⊢
 obtain ⟨i, rfl⟩ := x7q hb
 dsimp only at hb ⊢
 obtain ⟨c, d, e1⟩ := xu7 hb
 . rw [e1] at hb
   try rw [e1]
   dsimp only at hb ⊢
   induction hc : Nat.beq c C with
   | false => rw [hc] at hb; exact q3q hb
   | true =>
    obtain rfl := Nat.eq_of_beq_eq_true hc
    rw [hc] at hb
    dsimp only at hb ⊢
    obtain ⟨es', ep, e2⟩ := qf6 hb
    . rw [e2] at hb
      try rw [e2]
      dsimp only at hb ⊢
      induction e3 : Nat.ble es'.length 100 with
      | false => rw [e3] at hb; exact q3q hb
      | true =>
       rw [e3] at hb
       dsimp only at hb ⊢
       obtain ⟨hl, he⟩ := qe1 hb
       rw [he]
       obtain ⟨y, oy, rfl, hy, ho, ⟨dx, hdx, rfl⟩⟩ := I.obj e1 hu
       obtain ⟨D', oD, hD1, hD2, hD3⟩ := I.heap d _ e2
       rw [hdx] at hD1; obtain rfl := w4z hD1
       obtain ⟨hp', gg, dd, tk, os⟩ := s
       have Xs := X.keeps I.base
       have IA : InstAt hp' y ⟨.ref c, some dx, .plain, #[]⟩ c (some oD) := ⟨ho, rfl, rfl, hD2⟩
       refine set_plain Xs IA F.hs (osa_open (s := ⟨hp', gg, dd, tk + 1, os⟩) Xs IA F.hp F.ht fun b => ?_)
       obtain ⟨cd, hcd, hd'⟩ := any_some F.hh
       refine w0z (w2z (w0z (w0z (wpAny_loadPart ho (w0z ((looks_clsIn (M := model prog g.w) Xs hcd).at ?_))))))
       rw [hd']
       refine w2z (a := some dx) (w0z (w2z (w0z ?_)))
       refine zk8 (I.tok (tk + 1)) hdx hD2 hD3 hl hv fun s' o' I' X' ho' hr' => ?_
       obtain ⟨fs, r1, r2, rfl⟩ := hr'
       refine w0z (wpAny_lookBehind ho' (pastItsLine_dict ?_) ?_)
       . rw [List.size_toArray, <- r1.length]
         have := zk4 es' name v
         have h1 := w5z e3
         have h2 : (102 : Nat) <= sizeLine + 1 := by decide
         omega
       . exact w2z ⟨(), _, V, rfl, trivial, I', X'⟩
end
end
section
open PySem.Builtin.ObjectAttr
section
variable {g : Gl} {prog : Program} {cx : Cx} {n : Nat} {K : Frag}
structure InstMeth (K : Frag) (C : Addr) (name : Str) (f : Addr) : Prop where
 hg : plainGet K C name = true
 hf : findIn K (.ref C) name = some (some (.ref f))
 ht : typeIn K (.ref f) = some (.type "function")
noncomputable def u5q (C : Addr) (name : List Nat) (a : AV) (st : St) : Bool := match a with
 | .ref i => match st.H.t.get i with
  | some (.inst c d) => match Nat.beq c C with
   | true => match st.H.t.get d with
    | some (.dict es _) => match v3q es name with
     | none => true
     | some _ => false
    | _ => false
   | false => false
  | _ => false
 | _ => false
set_option tactic.hygienic true in
theorem xb5 {C : Addr} {name : List Nat} {a : AV} {st : St} (h : u5q C name a st = true) : ∃ i d es ep, a = .ref i /\ st.H.t.get i = some (.inst C d) /\ st.H.t.get d = some (.dict es ep) /\ v3q es name = none := by
 cases a <;> try exact j7q h
 rename_i i
 unfold u5q at h
 dsimp only at h
 generalize e1 : st.H.t.get i = o at h
 rcases o with _ | o <;> try exact j7q h
 cases o <;> try exact j7q h
 rename_i c d
 dsimp only at h
 generalize e2 : Nat.beq c C = q at h
 cases q
 . exact j7q h
 dsimp only at h
 generalize e3 : st.H.t.get d = o at h
 rcases o with _ | o <;> try exact j7q h
 cases o <;> try exact j7q h
 rename_i es ep
 dsimp only at h
 generalize e4 : v3q es name = k at h
 cases k
 . obtain rfl := Nat.eq_of_beq_eq_true e2
   exact ⟨i, d, es, ep, rfl, e1, e3, e4⟩
 . exact j7q h
theorem xo7 {V : List Addr} {k : List Nat} {es : List (List Nat × AV)} {ep : Nat} {o : Obj} (h : j2q g V o (.dict es ep)) (e : v3q es k = none) : shadowIn (some o) ⟨k.toArray⟩ = some false := by
 obtain ⟨fs, r1, r2, rfl⟩ := h
 have := qv5 k r1
 unfold z4q at this
 rw [e] at this
 induction q : fs.find? fun e => e.key.isStr ⟨k.toArray⟩ with
 | some x => rw [q] at this; exact this.elim
 | none =>
  have hr := qv7 r1
  rw [<- Array.any_toList] at hr
  unfold shadowIn lookIn
  dsimp only
  rw [q]
  skip
  simp only [hr]
  rfl
theorem qs6 {o : Expr} {name : List Nat} {apos pos : Pos} {es : List Expr} {f : AM AV} {fs : List (AM AV)} {C fa : Addr} {F : List AV -> AM AV} (X : K.In g.U) (M : InstMeth K C ⟨name.toArray⟩ fa) (hk : qf2 g prog (.ref fa))
 (hF : ∀ as vs, RefX g prog cx n (fun V => reps g.ν V as vs) (repV g.ν) (call (.ref fa) vs) (F as))
 (h : RefE g prog cx n o f) (hs : qc0 g prog cx n es fs) (pl : Sem Bool) (he : eval (.Call (.Attribute o ⟨name.toArray⟩ apos) es [] pos) cx.env = (do
  let ov <- eval o cx.env
  standAt apos.atName
  let (f, first) <- holding [ov] (getMethod ov ⟨name.toArray⟩ pl)
  callWith pos f first (backTo pos (starEach es cx.env)) [])) : RefE g prog cx n (.Call (.Attribute o ⟨name.toArray⟩ apos) es [] pos) (qe4 (u5q C name) f fs F) := by
 refine RefW.toX (fun A Q E s h => MethodCall_ h he) ?_
 refine RefW.nest Mono.true h fun a u => ?_
 intro A V st s hA hp I hb Q E hq hx
 unfold qx6 at hb hq hx
 induction hkk : u5q C name a st with
 | false => rw [hkk] at hb; exact q3q hb
 | true =>
  rw [hkk] at hb hq hx
  obtain ⟨i, d, es', ep, rfl, e1, e2, e3⟩ := xb5 hkk
  obtain ⟨y, oy, rfl, hy, ho, ⟨dx, hdx, rfl⟩⟩ := I.obj e1 hp.2
  obtain ⟨D', oD, hD1, hD2, hD3⟩ := I.heap d _ e2
  rw [hdx] at hD1; obtain rfl := w4z hD1
  have IA : InstAt s.heap y ⟨.ref C, some dx, .plain, #[]⟩ C (some oD) := ⟨ho, rfl, rfl, hD2⟩
  refine method_fn (X.keeps I.base) IA (plainGet_of M.hg).1 (plainGet_of M.hg).2 M.hf M.ht (xo7 hD3 e3) ?_
  exact (qx7 (pos := pos) (first := [.ref y]) (ff := [.ref i]) hk hs hF).toW A V st s hA ⟨hp.2, trivial⟩ I hb Q E hq hx
end
end
section
open PySem.Builtin.ObjectAttr
open PySem.Builtin.Getset_descriptor
open PySem PySem.Builtin PySem.Spec PySem.Calls PyProof.Rows PySem.W
section
variable {g : Gl} {prog : Program} {cx : Cx} {n : Nat} {K : Frag}
structure NodeGet (K : Frag) (C : Addr) (name : Str) (p : Addr) (i : Nat) : Prop where
 hg : plainGet K C name = true
 hc : isClsIn K C = true
 ha : findIn K (.ref C) name = some (some (.ref p))
 hn : specialIn K (.ref p) "__get__" = some (some (.builtin "member_descriptor.__get__"))
 ht : takesIn K (.ref p) = some true
 hp : slotIn K p C = some i
structure NodeSet (K : Frag) (C : Addr) (name : Str) (p : Addr) (i : Nat) : Prop where
 hs : findIn K (.ref C) "__setattr__" = some (some (.builtin "object.__setattr__"))
 hp : plainOver K C = true
 ht : takerIn K C name = some (some (.ref p))
 hT : typeIn K (.ref p) = some (.type "member_descriptor")
 hi : slotIn K p C = some i
theorem y7q.get {V : List Addr} : ∀ {sl : List (Option AV)} {vs : List (Option Value)} {i : Nat} {v : AV}, y7q g.ν V sl vs -> sl[i]? = some (some v) -> ∃ w, vs[i]? = some (some w) /\ repV g.ν V v w
 | [], [], _, _, _, e => by simp at e
 | [], _ :: _, _, _, h, _ => h.elim
 | _ :: _, [], _, _, h, _ => h.elim
 | a :: l, v :: r, 0, b, h, e => by
  simp at e; subst e
  obtain ⟨h1, h2⟩ := h
  induction v with
  | none => exact h1.elim
  | some w => exact ⟨w, rfl, h1⟩
 | a :: l, v :: r, i + 1, b, h, e => by
  obtain ⟨w, h1, h2⟩ := y7q.get (i := i) h.2 (by simpa using e)
  exact ⟨w, by simpa using h1, h2⟩
noncomputable def qw9 (C : Addr) (i : Nat) (a : AV) : AM AV := match a with
 | .ref k => fun st => match st.H.t.get k with
  | some (.node c _ sl) => match Nat.beq c C with
   | true => match sl[i]? with
    | some (some v) => match qv6 v with
     | true => .ok v st
     | false => .bad
    | _ => .bad
   | false => .bad
  | _ => .bad
 | _ => AM.fail
theorem qi7 {C p : Addr} {name : Str} {i : Nat} (X : K.In g.U) (F : NodeGet K C name p i) : zi9 g prog cx n name (qw9 C i) := by
 intro a u A V st s hA hu I hb
 unfold qw9 at hb ⊢
 obtain ⟨k, rfl⟩ := x7q hb
 dsimp only at hb ⊢
 obtain ⟨c, d, sl, e1⟩ := get_node hb
 . rw [e1] at hb
   try rw [e1]
   dsimp only at hb ⊢
   induction hc : Nat.beq c C with
   | false => exact q3q (hc ▸ hb)
   | true =>
    obtain rfl := Nat.eq_of_beq_eq_true hc
    rw [hc] at hb
    dsimp only at hb ⊢
    induction e3 : sl[i]? with
    | none => exact q3q (e3 ▸ hb)
    | some ov =>
     induction ov with
     | none => exact q3q (e3 ▸ hb)
     | some v =>
      rw [e3] at hb
      dsimp only at hb ⊢
      induction e4 : qv6 v with
      | false => exact q3q (e4 ▸ hb)
      | true =>
       obtain ⟨q, oq, rfl, hq, ho, ⟨dx, vs, hdx, hvs, rfl⟩⟩ := I.obj e1 hu
       obtain ⟨oD, hD⟩ := I.live dx (w7z hdx)
       have IA : InstAt s.heap q ⟨.ref c, some dx, .plain, vs.toArray⟩ c (some oD) := ⟨ho, rfl, rfl, hD⟩
       obtain ⟨w, hw1, hw2⟩ := hvs.get e3
       have Xs := X.keeps I.base
       exact get_bind Xs IA (plainGet_of F.hg).1 (findObj_data F.hc F.ha F.hn F.ht) (plainGet_of F.hg).2
        (wpAny_call (slot_get (s := { s with toks := s.toks + 1 }) Xs IA F.hp (by rw [List.getElem?_toArray, hw1]; rfl) (handed_on (xb6 hw2 e4) ⟨v, st, V, rfl, hw2, I.tok _, Ext.refl _ _ _⟩)))
noncomputable def putS (sl : List (Option AV)) (i : Nat) (v : AV) : List (Option AV) := (sl ++ List.replicate (i + 1 - sl.length) none).set i (some v)
theorem y7q.len {V : List Addr} : ∀ {sl : List (Option AV)} {vs : List (Option Value)}, y7q g.ν V sl vs -> sl.length = vs.length
 | [], [], _ => rfl
 | _ :: _, _ :: _, h => by simp [y7q.len h.2]
 | [], _ :: _, h => h.elim
 | _ :: _, [], h => h.elim
theorem y7q.pad {V : List Addr} (k : Nat) : ∀ {sl : List (Option AV)} {vs : List (Option Value)}, y7q g.ν V sl vs -> y7q g.ν V (sl ++ List.replicate k none) (vs ++ List.replicate k none)
 | [], [], _ => by
  induction k with
  | zero => trivial
  | succ k ih => exact ⟨trivial, ih⟩
 | _ :: _, _ :: _, h => ⟨h.1, y7q.pad k h.2⟩
 | [], _ :: _, h => h.elim
 | _ :: _, [], h => h.elim
theorem y7q.set {V : List Addr} {v : AV} {w : Value} (hv : repV g.ν V v w) : ∀ {sl : List (Option AV)} {vs : List (Option Value)} (i : Nat), y7q g.ν V sl vs -> y7q g.ν V (sl.set i (some v)) (vs.set i (some w))
 | [], [], _, _ => trivial
 | a :: l, b :: r, 0, h => ⟨hv, h.2⟩
 | a :: l, b :: r, i + 1, h => ⟨h.1, y7q.set hv i h.2⟩
 | [], _ :: _, _, h => h.elim
 | _ :: _, [], _, h => h.elim
theorem xt2 {w : World} {A : Around} {s : Shared} {ox : Obj} {od : Option Obj} {v : Value} {x C p i : Nat} {R : Result -> Shared -> Prop} (X : K.In s.heap) (I : InstAt s.heap x ox C od)
 (hp : slotIn K p C = some i) (hi : i < 1000)
 (h : R (.ok (.ret .none)) { s with heap := s.heap.update x fun o => { o with slots := (o.slots ++ Array.replicate (i + 1 - o.slots.size) none).setIfInBounds i (some v) } }) :
 codeAny (model prog w) A (.call (.builtin "member_descriptor.__set__") ⟨[.ref p, .ref x, v], []⟩) R s := by
 obtain ⟨n, tn, owner, behind, tb, d, sl, cd, ho, hc, hm, hb, rfl⟩ := slot_of X hp
 obtain ⟨hh, g, dr, t, os⟩ := s
 have L0 := I.type (M := model prog w)
 have L1 := looks_mroIn (M := model prog w) X hm
 have L2 : Looks (model prog w) hh (Slots.slotNamesOf (.ref C)) cd.slotNames := (looks_clsIn X hc).andThen .now
 have hx := I.at_
 dsimp only at ho hx L0 L1
 have f0 := looks_field (M := model prog w) ho 0 (v := .str n tn) rfl
 have f1 := looks_field (M := model prog w) ho 1 (v := owner) rfl
 have f3 := looks_field (M := model prog w) ho 3 (v := .builtin "proto.slot#set") rfl
 have f4 := looks_field (M := model prog w) ho 4 (v := .int behind tb) rfl
 refine codeAny_call_builtin KF.slot_mset.plain KF.entry_mset (KF.slot_mset.check _ _ _ _ _ _ _ _ ⟨_, ho, rfl⟩ (KF.args_mset _ _ _) ?_)
 unfold Builtin.«member_descriptor.__set__» descrSet descrStoreThrough descrCheckInstance descrNameAndClass isInstance
 have f5 : Looks (model prog w) hh (descrItself (.ref p)) [.ref p] := ((Looks.ld (part := none) ho).andThen .now).andThen (Looks.of_pure (by kernel_rfl))
 repeat lk
 refine ⟨Code.quiet_builtin _ (by decide +kernel), codeAny_builtin KF.entry_slotset ?_⟩
 unfold Builtin.«proto.slot#set» Slots.target
 repeat lk
 rw [if_neg hb]
 refine w2z (w0z ?_)
 unfold setSlotAt
 dsimp only
 rw [if_neg (by rw [sizeLine_eq]; omega)]
 exact wpAny_updatePart hx (w2z h)
noncomputable def xd0 (C : Addr) (i : Nat) (a v : AV) : AM Unit := match a with
 | .ref k => fun st => match st.H.t.get k with
  | some (.node c d sl) => match Nat.beq c C with
   | true => setM k (.node c d (putS sl i v)) (AM.ret ()) st
   | false => .bad
  | _ => .bad
 | _ => AM.fail
theorem qn2 {C p : Addr} {name : Str} {i : Nat} (X : K.In g.U) (hi3 : i < 1000) (F : NodeSet K C name p i) : zi7 g prog cx n name (xd0 C i) := by
 intro a v u w A V st s hA hp I hb
 obtain ⟨hv, hu⟩ := hp
 unfold xd0 at hb ⊢
 obtain ⟨k, rfl⟩ := x7q hb
 dsimp only at hb ⊢
 obtain ⟨c, d, sl, e1⟩ := get_node hb
 . rw [e1] at hb
   try rw [e1]
   dsimp only at hb ⊢
   induction hc : Nat.beq c C with
   | false => exact q3q (hc ▸ hb)
   | true =>
    obtain rfl := Nat.eq_of_beq_eq_true hc
    rw [hc] at hb
    dsimp only at hb ⊢
    obtain ⟨hl, he⟩ := qe1 hb
    rw [he]
    obtain ⟨q, oq, rfl, hq, ho, ⟨dx, vs, hdx, hvs, rfl⟩⟩ := I.obj e1 hu
    obtain ⟨oD, hD⟩ := I.live dx (w7z hdx)
    have IA : InstAt s.heap q ⟨.ref c, some dx, .plain, vs.toArray⟩ c (some oD) := ⟨ho, rfl, rfl, hD⟩
    have Xs := X.keeps I.base
    refine set_plain Xs IA F.hs (osa_descr (s := { s with toks := s.toks + 1 }) KF.slot_mset Xs IA F.hp F.ht F.hT (xt2 (s := { s with toks := s.toks + 1 }) Xs IA F.hi hi3 ?_))
    have hg := Heap.get?_update_self (fun o : Obj => { o with slots := (o.slots ++ Array.replicate (i + 1 - o.slots.size) none).setIfInBounds i (some w) }) ho rfl
    have Z := I.upd (s.toks + 1) (i := k) (a := q) (ao := .node c d (putS sl i v)) hq (fun b hb => Heap.get?_update_other s.heap _ (Ne.symm hb)) hg
     ⟨dx, (vs ++ List.replicate (i + 1 - vs.length) none).set i (some w), hdx, by
      have := (hvs.pad (i + 1 - sl.length)).set hv i
      unfold putS
      rw [<- hvs.len]; exact this, by
      congr 1
      apply Array.ext'
      simp⟩ hl
    exact ⟨(), _, V, rfl, trivial, Z.1, Z.2⟩
end
end
section
open PySem.Builtin.ObjectAttr
section
variable {g : Gl} {prog : Program} {cx : Cx} {n : Nat} {K : Frag}
structure ClsMake (K : Frag) (C fI : Addr) : Prop where
 hm : makesIn K C = true
 hi : findIn K (.ref C) "__init__" = some (some (.ref fI))
 hf : typeIn K (.ref fI) = some (.type "function")
noncomputable def ze1 (mk : Nat -> AO) (F : List AV -> AM AV) (as : List AV) : AM AV := fun st => match Nat.blt (st.H.n + 1) z5q with
 | true => match F (.ref (st.H.n + 1) :: as) { st with H := (st.H.push (.dict [] 0)).push (mk st.H.n) } with
  | .ok .none st' => .ok (.ref (st.H.n + 1)) st'
  | .exc k st' => .exc k st'
  | _ => .bad
 | false => .bad
theorem AOk.under {A : Around} {C : Addr} {vals : List Value} (h : AOk cx (n + 1) A) : AOk cx n (A.under (.builtin "type.__call__" ⟨.ref C :: vals, []⟩)) := by
 refine ⟨h.frames, ?_, ?_, h.quiet⟩
 . have := h.depth
   have e : (A.under (.builtin "type.__call__" ⟨.ref C :: vals, []⟩)).depth = A.depth + 1 := rfl
   exact shl (by assumption)
 . have := h.units
   have e : (A.under (.builtin "type.__call__" ⟨.ref C :: vals, []⟩)).units = A.units + 1 := rfl
   omega
theorem zu8 {C fI m : Nat} {F : List AV -> AM AV} {mk : Nat -> AO} (X : K.In g.U) (M : ClsMake K C fI) (hF : qc1 g prog m (.ref fI) F) (hq : cx.q = true) (hn : m <= n)
 (hmk : ∀ (V : List Addr) D d, V[d]? = some D -> j2q g V (instObj C D) (mk d)) (as : List AV) (vs : List Value) :
 RefX g prog cx (n + 1) (fun V => reps g.ν V as vs) (repV g.ν) (call (.ref C) vs) (ze1 mk F as) := by
 intro A V st s hA hp I hb
 obtain ⟨hh, gg, dd, t, os⟩ := s
 unfold ze1 at hb ⊢
 induction h1 : Nat.blt (st.H.n + 1) z5q with
 | false => rw [h1] at hb; exact q3q hb
 | true =>
  rw [h1] at hb
  dsimp only at hb ⊢
  have h0 : Nat.blt st.H.n z5q = true := by
   have := w5z h1
   exact Nat.ble_eq_true_of_le (by exact Nat.le_of_lt (by assumption))
  have A1 := I.alloc t (h' := hh.push emptyDict) (a := hh.objs.size) (o := emptyDict) (ao := .dict [] 0) (Heap.get?_none_of_le (Nat.le_refl _)) (Heap.get?_push_size _ rfl) (fun b o e => w6z _ e) ⟨[], trivial, by simp, rfl⟩ h0
  have hsz : (hh.push emptyDict).objs.size = hh.objs.size + 1 := Heap.size_push _ _
  have A2 := A1.1.alloc t (h' := (hh.push emptyDict).push (instObj C hh.objs.size)) (a := hh.objs.size + 1) (o := instObj C hh.objs.size) (ao := mk st.H.n) (Heap.get?_none_of_le (Nat.le_of_eq hsz)) (by rw [<- hsz]; exact Heap.get?_push_size _ rfl)
   (fun b o e => w6z _ e) (hmk _ _ _ (by rw [I.size]; simp)) h1
  have Xs := X.keeps I.base
  have XX := A1.2.trans A2.2
  have hb1 : F (.ref (st.H.n + 1) :: as) { st with H := (st.H.push (.dict [] 0)).push (mk st.H.n) } ≠ .bad := fun e => by rw [e] at hb; exact hb rfl
  have hx : (V ++ [hh.objs.size] ++ [hh.objs.size + 1])[st.H.n + 1]? = some (hh.objs.size + 1) := by rw [I.size]; simp
  refine wpAny_call (make_core (makes_of Xs M.hm) (looks_findIn Xs M.hi) (fun self => bind_fn Xs self M.hf) (.inl rfl) ?_)
  refine codeAny_mono (hF cx n hn hq (.ref (st.H.n + 1) :: as) (.ref (hh.objs.size + 1) :: vs) _ _ _ _ hA.under ⟨⟨_, hx, rfl⟩, reps.mono XX.pre hp⟩ A2.1 hb1) fun r s' z => ?_
  induction r with
  | error e =>
   obtain ⟨k, st', ρ', e1, z1, z2, z3⟩ := z
   show EOk _ _ _ _ _ _ _
   rw [e1]
   exact ⟨k, st', ρ', rfl, z1.mono XX (z3.pre), z2, XX.trans z3⟩
  | ok f =>
   induction f with
   | ret v =>
    obtain ⟨b, st', ρ', e1, z1, z2, z3⟩ := z
    rw [e1] at hb
    obtain rfl : b = .none := by induction b <;> first | rfl | exact q3q hb
    subst z1
    refine ⟨rfl, ?_⟩
    show QOk _ _ _ _ _ _ _ _
    rw [e1]
    exact ⟨.ref (st.H.n + 1), st', ρ', rfl, ⟨_, z3.pre.get hx, rfl⟩, z2, XX.trans z3⟩
   | _ => exact z.elim
end
end
section
variable {g : Gl} {prog : Program} {cx : Cx} {n : Nat} {K : Frag}
theorem qq6 {o value : Expr} {attr : Str} {tpos pos : Pos} {op : Operator} {fo fv : AM AV} {G : AV -> AM AV} {opM : AV -> AV -> AM AV} {F : AV -> AV -> AM Unit} (hG : zi9 g prog cx n attr G) (hop : OpOk g prog cx n (inplaceOp op) opM) (hF : zi7 g prog cx n attr F)
 (ho : RefE g prog cx n o fo) (hv : RefE g prog cx n value fv) :
 RefS g prog cx n (.AugAssign (.Attribute o attr tpos) op value pos) (fo.bind fun a => (G a).bind fun b => fv.bind fun v => (opM b v).bind fun r => (F a r).bind fun _ => AM.ret .next) := by
 refine RefW.toX (fun A Q E s h => wpAny_AugAssign_AttributeAny h) ?_
 refine RefW.nest Mono.true ho fun a u => ?_
 refine RefW.nest (Mono.and Mono.true (z6q _ _ _)) ((hG a u).weak fun _ h => h.2) fun b w => ?_
 refine RefW.nest (Mono.and (Mono.and Mono.true (z6q _ _ _)) (z6q _ _ _)) (hv.weak fun _ _ => trivial) fun v x => ?_
 refine RefW.nest (Mono.and (Mono.and (Mono.and Mono.true (z6q _ _ _)) (z6q _ _ _)) (z6q _ _ _)) ((hop b v w x).weak fun _ h => ⟨h.1.2, h.2⟩) fun r y => ?_
 refine RefW.nest (K := fun _ _ (Q : Flow -> Shared -> Prop) _ s => Q .next s) (Mono.and (Mono.and (Mono.and (Mono.and Mono.true (z6q _ _ _)) (z6q _ _ _)) (z6q _ _ _)) (z6q _ _ _)) ((hF a r u y).weak fun _ h => ⟨h.2, h.1.1.1.2⟩) fun _ _ => ?_
 exact RefW.done fun _ _ => rfl
theorem xq7 : OpOk g prog cx n (inplaceOp .Add) (qc5 SI.add) := qs0 fun _ i j k _ _ _ _ s e h => wpAny_iadd_int (by rw [<- SI.add_ok e]; exact h _ _)
theorem zw8 : OpOk g prog cx n (inplaceOp .Sub) (qc5 SI.sub) := qs0 fun _ i j k _ _ _ _ s e h => isub_int (by rw [<- SI.sub_ok e]; exact h _ _)
theorem xb4 {k : Nat} {T : String} (hk : qx5 k = .type T) (hexc : isSubtype (.type T) (.type "BaseException") = pure true) (hnt : isSubtype (.type ((Manifest.find? T).elim "type" fun x => x.metatype)) (.type "tuple") = pure false)
 (hsub : isSubtype (.type T) (.type T) = pure true) : qy2 g prog k (.type T) :=
 fun A Q E s a o ho hc _ h => wpAny_excMatches_type (X := T) (b := true) ⟨o, ho, hc.trans hk⟩ hexc hnt hsub h
theorem qu0 : qy2 g prog 0 (.type "ValueError") := xb4 rfl (by rw [isSubtype_type]; kernel_rfl) (by rw [isSubtype_type]; kernel_rfl) (by rw [isSubtype_type]; kernel_rfl)
theorem qn9 : qy2 g prog 1 (.type "StopIteration") := xb4 rfl (by rw [isSubtype_type]; kernel_rfl) (by rw [isSubtype_type]; kernel_rfl) (by rw [isSubtype_type]; kernel_rfl)
end
section
variable {g : Gl} {prog : Program} {cx : Cx} {n : Nat}
theorem zj1 {x : Str} {px pos : Pos} {e : Expr} {f : AM AV} {p : AV -> AM Unit} (h : RefE g prog cx n e f) (hp : StOk g prog cx n (storeName cx.env x) p) :
 RefE g prog cx n (.NamedExpr (.Name x px) e pos) (f.bind fun a => (p a).bind fun _ => AM.ret a) := by
 refine RefW.toX (fun A Q E s h => wpAny_NamedExpr h) ?_
 refine RefW.nest Mono.true h fun a u => ?_
 refine RefW.nest (K := fun _ _ (Q : VP) _ s => Q u s) (Mono.and Mono.true (z6q _ _ _)) (RefX.weak (P := fun V => repV g.ν V a u) (RefX.of_wp (t' := storeName cx.env x u) (fun A Q E s h => PyProof.Rows.assign_Name h) (hp a u)) fun _ h => h.2) fun _ _ => ?_
 exact RefW.done fun V h => h.1.2
theorem u7q {e : Expr} {pos : Pos} {f : AM AV} (hi : interactive cx.env = false) (hs : swapsWith e none pos.line cx.env = pure false) (h : RefE g prog cx n e f) : RefS g prog cx n (.Expr e pos) (f.bind fun _ => AM.ret .next) := by
 refine RefW.toX (fun A Q E s h => wpAny_Expr_any h hi hs) ?_
 refine RefW.nest (K := fun _ _ (Q : Flow -> Shared -> Prop) _ s => Q .next s) Mono.true h fun a v => ?_
 exact RefW.done fun _ _ => rfl
end
section
variable {g : Gl} {prog : Program} {cx : Cx} {n : Nat} {K : Frag}
theorem qi4 {u : Value} (X : K.In g.U) (hk : keepIn K u = true) : qf2 g prog u := by
 intro A pos first args Q E s hp h
 exact callWith_of (P := K.In) (by rw [hp]; rfl) (keeps_K hk) (w3z h (fun x s₁ h₁ => ⟨X.keeps h₁.1, h₁.2⟩) fun _ _ z => z)
theorem zj3 {x : Str} {p pos : Pos} {es : List Expr} {fs : List (AM AV)} {C fI m : Nat} {F : List AV -> AM AV} {mk : Nat -> AO} (X : K.In g.U) (hk : keepIn K (.ref C) = true) (M : ClsMake K C fI) (hF : qc1 g prog m (.ref fI) F) (hq : cx.q = true) (hn : m <= n)
 (hmk : ∀ (V : List Addr) D d, V[d]? = some D -> j2q g V (instObj C D) (mk d)) (hx : RefE g prog cx (n + 1) (.Name x p) (AM.ret (.stat (.ref C)))) (hs : qc0 g prog cx (n + 1) es fs) :
 RefE g prog cx (n + 1) (.Call (.Name x p) es [] pos) ((q8q fs).bind (ze1 mk F)) :=
 xi4 hx (qi4 X hk) hs (zu8 X M hF hq hn hmk)
theorem zn0 {C : Nat} : ∀ (V : List Addr) (D : Addr) d, V[d]? = some D -> j2q g V (instObj C D) (.inst C d) := fun _ D _ h => ⟨D, h, rfl⟩
theorem zl0 {C : Nat} : ∀ (V : List Addr) (D : Addr) d, V[d]? = some D -> j2q g V (instObj C D) (.node C d []) := fun _ D _ h => ⟨D, [], h, trivial, rfl⟩
noncomputable def qk7 (t : AM Bool) : AM AF := t.bind fun b => match b with
 | true => AM.ret .next
 | false => AM.fail
theorem zq5 {t : Expr} {pos : Pos} {f : AM Bool} (hq : cx.q = true) (h : RefT g prog cx n t f) : RefS g prog cx n (.Assert t none pos) (qk7 f) := by
 intro A V st s hA hp I hb
 have hb1 : f st ≠ .bad := fun e => hb (by unfold qk7 AM.bind; rw [e])
 refine wpAny_Assert (hA.quiet hq) (w3z (h A V st s hA trivial I hb1) ?_ ?_)
 . rintro v s₁ ⟨b, st₁, VA, e, hr, I₁, XA⟩
   cases hr
   induction v with
   | true =>
    have hf : qk7 f st = .ok .next st₁ := by unfold qk7 AM.bind; rw [e]; rfl
    rw [hf]
    exact ⟨AF.next, st₁, VA, rfl, rfl, I₁, XA⟩
   | false => exact absurd (by unfold qk7 AM.bind; rw [e]; rfl) hb
 . rintro w s₁ ⟨c, st₁, VA, e, hr, I₁, XA⟩
   have hf : qk7 f st = .exc c st₁ := by unfold qk7 AM.bind; rw [e]
   rw [hf]
   exact ⟨c, st₁, VA, rfl, hr, I₁, XA⟩
end
section
variable {g : Gl} {prog : Program} {cx : Cx} {n : Nat}
theorem xm6 {b : Stmt} : RefS g prog cx n b AM.fail := fun _ _ _ _ _ _ _ h => absurd rfl h
theorem E_or {x y : Expr} {pos : Pos} {f f' : AM AV} {tr : AV -> AM Bool} (h1 : RefE g prog cx n x f) (h2 : RefE g prog cx n y f') (ht : xh2 g prog cx n tr) :
 RefE g prog cx n (.BoolOp .Or [x, y] pos) (f.bind fun a => (tr a).bind fun b => match b with | true => AM.ret a | false => f') := by
 refine RefW.toX (fun A Q E s h => wpAny_Or2 h) ?_
 refine RefW.nest Mono.true h1 fun a u => RefW.nest (Mono.and Mono.true (z6q _ _ _)) ((ht a u).weak fun _ h => h.2) fun b v => ?_
 intro A V st s hA hp I hb Q E hq he
 obtain ⟨⟨_, hr⟩, hbv⟩ := hp
 subst hbv
 induction b with
 | false => simpa using (RefX.toW h2) A V st s hA trivial I hb Q E hq he
 | true => simpa using hq _ _ ⟨a, st, V, rfl, hr, I, Ext.refl _ _ _⟩
theorem jn1 {i : Int} {k : Nat} {p pos : Pos} : RefE g prog cx n (.UnaryOp .USub (.Constant (.int i) k p) pos) (AM.ret (.int (.lin (-i) 0 0))) :=
 fun _ V st s _ _ I _ => UnaryOp_ (wpAny_Constant_int (PyProof.Rows.neg_int ⟨_, st, V, rfl, ⟨s.toks + 1, by rw [SI.val_lit]⟩, I.tok _, Ext.refl _ _ _⟩))
theorem xi2 (G : GOk g) {x : Str} {pos : Pos} {i : Int} {t : Tok} (hx : g.mg x = some (.int i t)) (hk : cx.env.scope.kind = .function) (hl : cx.env.kindOf x = some .globalImplicit) (hg : cx.env.globals = mainGlobals) (hd : (x == ("__debug__" : Str)) = false) :
 RefE g prog cx n (.Name x pos) (AM.ret (.int (.lin i 0 0))) := by
 intro A V st s hA _ I _
 exact Name_function_global hk hl (loadGlobal_global (by rw [hg]; exact G.ng.keeps I.base) hx ⟨.int (.lin i 0 0), st, V, rfl, ⟨t, by rw [SI.val_lit]⟩, I, Ext.refl _ _ _⟩) hd
theorem zq9 {v : Expr} {pos : Pos} {f : AM AV} (h : RefE g prog cx n v f) : RefE g prog cx n (.JoinedStr [v] pos) f :=
 RefX.of_wp (fun _ _ _ _ h => wpAny_JoinedStr_one h) h
theorem jm5 {o i : Expr} {p : Pos} {fo fi : AM AV} (ho : RefE g prog cx n o fo) (hi : RefE g prog cx n i fi) : TgOk g prog cx n (.Subscript o i p) (fun v => fo.bind fun a => fi.bind fun b => qz8 a b v) := by
 intro v x
 refine RefW.toX (T := fun A Q E s => wpAny (model prog g.w) A (eval o cx.env) (fun u s₁ => wpAny (model prog g.w) A (eval i cx.env) (fun w sB => wpAny (model prog g.w) A (setItem u w x) Q E sB) E s₁) E s) (fun A Q E s h => ?_) ?_
 . refine PySem.W.kas_sub (w3z h (fun u s₁ h₁ => w3z h₁ (fun w sB h₂ => h₂) fun _ _ e => e) fun _ _ e => e)
 . refine RefW.nest (z6q _ _ _) (ho.weak fun _ _ => trivial) fun a u => ?_
   refine RefW.nest (Mono.and (z6q _ _ _) (z6q _ _ _)) (hi.weak fun _ _ => trivial) fun b w => ?_
   exact ((xa6 a b v u w x).weak fun _ h => ⟨⟨h.1.2, h.2⟩, h.1.1⟩).toW
theorem jm8 {tA tB value : Expr} {pos : Pos} {f : AM AV} {pA pB : AV -> AM Unit} (he : (assignEach [tA, tB] cx.env).map (·.2) = [assign tA cx.env, assign tB cx.env]) (hw : swappedStores [tA, tB] value cx.env = pure none)
 (h : RefE g prog cx n value f) (h1 : TgOk g prog cx n tA pA) (h2 : TgOk g prog cx n tB pB) : RefS g prog cx n (.Assign [tA, tB] value pos) (f.bind fun v => (pA v).bind fun _ => (pB v).bind fun _ => AM.ret .next) := by
 refine RefW.toX (fun A Q E s h => wpAny_Assign_two h he hw) ?_
 refine RefW.nest Mono.true h fun v x => ?_
 refine RefW.nest (Mono.and Mono.true (z6q _ _ _)) ((h1 v x).weak fun _ h => h.2) fun _ _ => ?_
 refine RefW.nest (K := fun _ _ (Q : Flow -> Shared -> Prop) _ s => Q .next s) (Mono.and (Mono.and Mono.true (z6q _ _ _)) (fun _ _ _ _ => trivial)) ((h2 v x).weak fun _ h => h.1.2) fun _ _ => ?_
 exact RefW.done fun _ _ => rfl
end
section
variable {g : Gl} {prog : Program} {cx : Cx} {n : Nat} {K : Frag}
noncomputable def xo4 (a : AV) : AM (List AV) := match a with
 | .ref i => fun st => match st.H.t.get i with
  | some (.list xs) => v0q xs (AM.ret xs) st
  | some (.tuple xs) => v0q xs (AM.ret xs) st
  | _ => .bad
 | _ => AM.fail
theorem zb8 (a : AV) (u : Value) : RefW g prog cx n (fun V => repV g.ν V a u) (reps g.ν) (fun A Q E s => StarOf (model prog g.w) A E u Q s) (xo4 a) := by
 intro A V st s hA hp I hb Q E hq he
 unfold xo4 at hb hq
 obtain ⟨i, rfl⟩ := x7q hb
 dsimp only at hb hq
 have fin : ∀ (T : String) (xs : List AV) (y : Addr) (vs : List Value) (n1 : Nat), (T = "list" \/ T = "tuple") -> s.heap.get? y = some ⟨.type T, none, .seq vs.toArray n1, #[]⟩ -> reps g.ν V xs vs -> u = .ref y -> v0q xs (AM.ret xs) st ≠ .bad ->
  (∀ v s', QOk g cx V s (reps g.ν) (v0q xs (AM.ret xs) st) v s' -> Q v s') -> StarOf (model prog g.w) A E u Q s := by
  intro T xs y vs n1 hT hy hr hu hb hq
  subst hu
  obtain ⟨h1, h2⟩ := k6q hb
  rw [h2] at hq
  have hT' : s.TypeIs (.ref y) T := ⟨_, hy, rfl⟩
  have hz : vs.toArray.size <= sizeLine := by rw [List.size_toArray]; exact k4q h1 hr
  have z : wpAny (model prog g.w) A (collect (.ref y)) Q E s := by
   refine wpAny_collect_seq y hT hy rfl rfl (fun h' hk => hq _ _ ?_) hz
   have Z := I.grow (h' := h') s.toks hk
   exact ⟨xs, st, V, rfl, by simpa using hr, Z.1, Z.2⟩
  unfold StarOf notIterableAtAll
  rcases hT with rfl | rfl
  . exact w0z (wpAny_specialOf hT' PySem.F.slot_list_iter.lookup (w2z ⟨rfl, z⟩))
  . exact w0z (wpAny_specialOf hT' PySem.F.slot_tuple_iter.lookup (w2z ⟨rfl, z⟩))
 induction e : st.H.t.get i with
 | none => exact q3q (e ▸ hb)
 | some ao =>
  rw [e] at hb hq
  induction ao <;> try exact q3q hb
  . obtain ⟨y, o, rfl, h1, h2, vs, n1, hr, rfl⟩ := I.obj e hp
    exact fin "list" _ y vs n1 (.inl rfl) h2 hr rfl hb hq
  . obtain ⟨y, o, rfl, h1, h2, vs, n1, hr, rfl⟩ := I.obj e hp
    exact fin "tuple" _ y vs n1 (.inr rfl) h2 hr rfl hb hq
noncomputable def xs4 (fA fB : AM AV) : AM (List AV) := fA.bind fun a => (fB.bind xo4).bind fun l => AM.ret (a :: l)
end
section
open PySem.W.X
noncomputable abbrev Prs := List (Addr × Obj)
structure Rt where
 ns : Prs
 sc : Nat
 tk : Tok
 ac : List (Addr × Addr)
noncomputable abbrev Rk (α : Type) := Sem α -> Rt -> Prop
noncomputable def xc3 : Code -> Option (Sem Fin)
 | .builtin id args => (entriesT.find (code id)).map fun b => b args
 | .call f args => some (callAny f args)
 | _ => none
inductive OutV
 | res (r : Result)
 | again (c : Code)
 | no
noncomputable def outV : Sem Fin -> OutV
 | .pure (.done x) => .res (.ok x)
 | .pure (.again c) => bif c.quiet then .again c else .no
 | .raise e => .res (.error e)
 | _ => .no
noncomputable def subK (sub : Sem Fin -> Rt -> Rk Fin -> Prop) : Nat -> Code -> Rt -> (Result -> Rt -> Prop) -> Prop
 | 0, _, _, _ => False
 | n + 1, c, st, R => match xc3 c with
  | none => False
  | some t => sub t st fun r st' => match outV r with
   | .res r => R r st'
   | .again c' => subK sub n c' st' R
   | .no => False
noncomputable def jg8 : Value -> Option Addr
 | .ref a => some a
 | _ => none
theorem zk3 {v : Value} {a : Addr} (h : jg8 v = some a) : v = .ref a := by
 induction v with
 | ref b => obtain rfl := w4z h; rfl
 | _ => exact q6q h
noncomputable def oneOf {α : Type} : List α -> Option α
 | [] => none
 | a :: l => match l with
  | [] => some a
  | _ :: _ => none
noncomputable def xc2 : Code -> Option Addr
 | .builtin id args => bif id == "proto.collect" then (oneOf args.pos).bind jg8 else none
 | _ => none
noncomputable def ql8 (o : Obj) : Option (Array Value) := match o.cls, o.data with
 | .type T, .seq items _ => match T == "list" && Nat.ble items.size sizeLine with
  | true => some items
  | false => none
 | _, _ => none
noncomputable abbrev xl8 (items : Array Value) : Obj := Obj.mapSeq (· ++ items) ⟨.type "list", none, .seq #[] 0, #[]⟩
noncomputable abbrev qz1 (olds ns : Prs) (sc : Nat) : Option (Addr × Obj) := match Nat.beq (sc % 2) 0 with
 | true => ns[ns.length - 1 - sc % 64 / 2]?
 | false => olds[sc % 64 / 2]?
inductive View (α : Type)
 | skip (t : Sem α)
 | fresh (k : Tok -> Sem α)
 | ask (k : Setting -> Sem α)
 | alloc (o : Obj) (k : Addr -> Sem α)
 | load (a : Addr) (k : Obj -> Sem α)
 | update (a : Addr) (g : Obj -> Obj) (k : Unit -> Sem α)
 | call (c : Code) (k : Result -> Sem α)
 | stop
noncomputable def xi7 {α : Type} : Sem α -> View α
 | .rule _ k => .skip (k ())
 | .at _ k => .skip (k ())
 | .point _ k => .skip (k ())
 | .fresh k => .fresh k
 | .ask k => .ask k
 | .alloc o k => .alloc o k
 | .load a _ k => .load a k
 | .update a _ g k => .update a g k
 | .call c none _ _ k => .call c k
 | _ => .stop
noncomputable def zb7 (S : Setting) (olds : Prs) (sub : Sem Fin -> Rt -> Rk Fin -> Prop) {α : Type} (go : Sem α -> Rt -> Rk α -> Prop) (t : Sem α) (st : Rt) (K : Rk α) : Prop := match xi7 t with
 | .skip t => go t st K
 | .fresh k => go (k st.tk) { st with tk := st.tk + 1 } K
 | .ask k => go (k S) st K
 | .alloc o k => match o.isFreed with
  | true => False
  | false => ∀ a, go (k a) { st with ns := (a, o) :: st.ns } K
 | .load a k => match qz1 olds st.ns st.sc with
  | none => False
  | some p => go (k p.2) { st with sc := st.sc / 64, ac := (a, p.1) :: st.ac } K
 | .update a g k => match st.ns[st.ns.length - 1 - st.sc % 64 / 2]? with
  | none => False
  | some p => match (g p.2).isFreed with
   | true => False
   | false => go (k ()) { st with ns := st.ns.set (st.ns.length - 1 - st.sc % 64 / 2) (p.1, g p.2), sc := st.sc / 64, ac := (a, p.1) :: st.ac } K
 | .call c k => match xc2 c with
  | none => subK sub 5 c st fun r st' => go (k r) st' K
  | some a => match qz1 olds st.ns st.sc with
   | none => False
   | some p => match ql8 p.2 with
    | none => False
    | some items => ∀ a', go (k (.ok (.ret (.ref a')))) { st with ns := (a', xl8 items) :: st.ns, sc := st.sc / 64, ac := (a, p.1) :: st.ac } K
 | .stop => K t st
noncomputable def goS (S : Setting) (olds : Prs) (sub : Sem Fin -> Rt -> Rk Fin -> Prop) {α : Type} : Nat -> Sem α -> Rt -> Rk α -> Prop
 | 0 => fun t st K => K t st
 | f + 1 => zb7 S olds sub (goS S olds sub f)
noncomputable def lev (S : Setting) (olds : Prs) : Nat -> Sem Fin -> Rt -> Rk Fin -> Prop
 | 0 => fun _ _ _ => False
 | n + 1 => goS S olds (lev S olds n) 3000
noncomputable def Ok (l : List (Addr × Addr)) : Prop := ∀ p ∈ l, p.1 = p.2
noncomputable def AcOk {α : Type} (go : Sem α -> Rt -> Rk α -> Prop) : Prop := ∀ t st K, go t st K -> (∀ t' st', K t' st' -> Ok st'.ac) -> Ok st.ac
theorem zb5 {sub : Sem Fin -> Rt -> Rk Fin -> Prop} (hs : AcOk sub) : ∀ n c st R, subK sub n c st R -> (∀ r st', R r st' -> Ok st'.ac) -> Ok st.ac := by
 intro n
 induction n with
 | zero => exact fun c st R h => h.elim
 | succ n ih =>
  intro c st R h hR
  unfold subK at h
  generalize xc3 c = u at h
  induction u with
  | none => exact h.elim
  | some t =>
   refine hs t st _ h fun r st' q => ?_
   generalize outV r = v at q
   induction v with
   | res r => exact hR _ _ q
   | again c' => exact ih _ _ _ q hR
   | no => exact q.elim
theorem xk9 {S : Setting} {olds : Prs} {sub : Sem Fin -> Rt -> Rk Fin -> Prop} (hs : AcOk sub) {α : Type} (f : Nat) : AcOk (goS S olds sub (α := α) f) := by
 induction f with
 | zero => exact fun t st K h hK => hK _ _ h
 | succ f ih =>
  intro t st K h hK
  replace h : zb7 S olds sub (goS S olds sub f) t st K := h
  unfold zb7 at h
  generalize xi7 t = v at h
  induction v with
  | skip t => exact ih _ st K h hK
  | fresh k => exact ih _ { st with tk := st.tk + 1 } K h hK
  | ask k => exact ih _ st K h hK
  | alloc o k =>
   dsimp only at h
   induction e : o.isFreed with
   | true => rw [e] at h; exact h.elim
   | false => rw [e] at h; exact ih (k 0) { st with ns := (0, o) :: st.ns } K (h 0) hK
  | load a k =>
   dsimp only at h
   generalize qz1 olds st.ns st.sc = x at h
   induction x with
   | none => exact h.elim
   | some p => exact fun q m => ih _ _ K h hK q (.tail _ m)
  | update a g k =>
   dsimp only at h
   generalize st.ns[st.ns.length - 1 - st.sc % 64 / 2]? = x at h
   induction x with
   | none => exact h.elim
   | some p =>
    dsimp only at h
    induction e : (g p.2).isFreed with
    | true => rw [e] at h; exact h.elim
    | false => rw [e] at h; exact fun q m => ih _ _ K h hK q (.tail _ m)
  | call c k =>
   dsimp only at h
   generalize xc2 c = u at h
   induction u with
   | none => exact zb5 hs 5 c st _ h fun r st' q => ih _ _ K q hK
   | some a =>
    dsimp only at h
    generalize qz1 olds st.ns st.sc = x at h
    induction x with
    | none => exact h.elim
    | some p =>
     dsimp only at h
     induction e : ql8 p.2 with
     | none => rw [e] at h; exact h.elim
     | some items => rw [e] at h; exact fun q m => ih _ _ K (h 0) hK q (.tail _ m)
  | stop => exact hK _ _ h
noncomputable def fin {α : Type} (M : Model) (A : Around) (Q : α -> Shared -> Prop) (E : VP) (s : Shared) : Sem α -> Prop
 | .pure v => Q v s
 | .raise e => E e s
 | t => wpAny M A t Q E s
theorem jk9 {α : Type} {M : Model} {A : Around} {Q : α -> Shared -> Prop} {E : VP} {s : Shared} {t : Sem α} (h : fin M A Q E s t) : wpAny M A t Q E s := by
 induction t with
 | pure v => exact w2z h
 | raise v => exact wpAny_throw h
 | _ => exact h
section
variable {α : Type} {prog : Program} {w : World} {U : Heap} {g : Array GenState} {d : Drawn} {os : OsState} {olds : Prs}
noncomputable def WpOk (prog : Program) (w : World) (U : Heap) (g : Array GenState) (d : Drawn) (os : OsState) (go : Sem α -> Rt -> Rk α -> Prop) : Prop :=
 ∀ t st K (A : Around) (Q : α -> Shared -> Prop) (E : VP) (h : Heap), go t st K -> (∀ t' st', K t' st' -> Ok st'.ac) -> Mem U h [] st.ns -> (∀ t' st' h', K t' st' -> Mem U h' [] st'.ns -> wpAny (model prog w) A t' Q E ⟨h', g, d, st'.tk, os⟩) -> wpAny (model prog w) A t Q E ⟨h, g, d, st.tk, os⟩
theorem jh3 {A A' : Around} {Q : Result -> Shared -> Prop} {s : Shared} {r : Sem Fin} (h : match outV r with | .res r => Q r s | .again c' => codeAny (model prog w) A' c' Q s | .no => False) :
 wpAny (model prog w) A r (fun fin s' => match fin with | .done f => Q (.ok f) s' | .again c' => c'.quiet = true /\ codeAny (model prog w) A' c' Q s') (fun e s' => Q (.error e) s') s := by
 induction r with
 | pure x =>
  induction x with
  | done x => exact w2z h
  | again c' =>
   induction z : c'.quiet with
   | true => unfold outV at h; dsimp only at h; rw [z] at h; exact w2z ⟨z, h⟩
   | false => unfold outV at h; dsimp only at h; rw [z] at h; exact h.elim
 | raise e => exact wpAny_throw h
 | _ => exact h.elim
theorem zo7 {A : Around} {c : Code} {t : Sem Fin} {Q : Result -> Shared -> Prop} {s : Shared} (e : xc3 c = some t) (h : wpAny (model prog w) (A.under c) t (fun fin s' => match fin with | .done f => Q (.ok f) s' | .again c' => c'.quiet = true /\ codeAny (model prog w) A c' Q s') (fun e s' => Q (.error e) s') s) : codeAny (model prog w) A c Q s := by
 induction c with
 | builtin id args =>
  induction q : entriesT.find (code id) with
  | none => unfold xc3 at e; dsimp only at e; rw [q] at e; exact q6q e
  | some b => unfold xc3 at e; dsimp only at e; rw [q] at e; obtain rfl := w4z e; exact codeAny_builtin (entryFor_of_tree q) h
 | call v args => obtain rfl := w4z e; exact codeAny_of_tree h
 | _ => exact q6q e
theorem zt3 {sub : Sem Fin -> Rt -> Rk Fin -> Prop} (ha : AcOk sub) (hs : WpOk prog w U g d os sub) : ∀ n c st R (A : Around) (Q : Result -> Shared -> Prop) (h : Heap), subK sub n c st R -> (∀ r st', R r st' -> Ok st'.ac) -> Mem U h [] st.ns -> (∀ r st' h', R r st' -> Mem U h' [] st'.ns -> Q r ⟨h', g, d, st'.tk, os⟩) -> codeAny (model prog w) A c Q ⟨h, g, d, st.tk, os⟩ := by
 intro n
 induction n with
 | zero => exact fun c st R A Q h x => x.elim
 | succ n ih =>
  intro c st R A Q h x hR D hQ
  unfold subK at x
  induction e : xc3 c with
  | none => rw [e] at x; exact x.elim
  | some t =>
   rw [e] at x
   refine zo7 e (hs t st _ (A.under c) _ _ h x (fun r st' q => ?_) D (fun r st' h' q D' => jh3 ?_))
   . generalize outV r = v at q
     induction v with
     | res r => exact hR _ _ q
     | again c' => exact zb5 ha _ _ _ _ q hR
     | no => exact q.elim
   . generalize outV r = v at q ⊢
     induction v with
     | res r => exact hQ _ _ _ q D'
     | again c' => exact ih _ _ _ A Q h' q hR D' hQ
     | no => exact q.elim
theorem xj2 {h : Heap} {ns : Prs} {sc : Nat} {p : Addr × Obj} (ho : ∀ p ∈ olds, U.get? p.1 = some p.2) (D : Mem U h [] ns) (e : qz1 olds ns sc = some p) : h.get? p.1 = some p.2 := by
 unfold qz1 at e
 induction z : Nat.beq (sc % 2) 0 with
 | true => rw [z] at e; exact (D.nw _ (w7z e)).1
 | false => rw [z] at e; exact D.old _ _ (ho _ (w7z e)) (by rw [show away [] p.1 = true from rfl, Bool.or_true])
set_option tactic.hygienic true in
theorem zo8 {A : Around} {s : Shared} {R : Result -> Shared -> Prop} {c : Code} {a : Addr} {o : Obj} {items : Array Value} (ec : xc2 c = some a) (ho : s.heap.get? a = some o) (ei : ql8 o = some items)
 (hR : R (.ok (.ret (.ref s.heap.objs.size))) { s with heap := (s.heap.push ⟨.type "list", none, .seq #[] 0, #[]⟩).update s.heap.objs.size (Obj.mapSeq (· ++ items)) }) : codeAny (model prog w) A c R s := by
 obtain ⟨kw, rfl⟩ : ∃ kw, c = .builtin "proto.collect" ⟨[.ref a], kw⟩ := by
  induction c with
  | builtin id args =>
   unfold xc2 at ec
   dsimp only at ec
   induction z : id == "proto.collect" with
   | false => rw [z] at ec; exact q6q ec
   | true =>
    rw [z] at ec
    obtain ⟨pos, kw⟩ := args
    induction pos with
    | nil => exact q6q ec
    | cons v l =>
     induction l with
     | nil => exact ⟨kw, by rw [eq_of_beq z, zk3 ec]⟩
     | cons _ _ => exact q6q ec
  | _ => exact q6q ec
 obtain ⟨n, hd, hc, hsz⟩ : ∃ n, o.data = .seq items n /\ o.cls = .type "list" /\ items.size <= sizeLine := by
  obtain ⟨cls, sh, data, sl⟩ := o
  cases cls <;> try exact q6q ei
  rename_i T
  cases data <;> try exact q6q ei
  rename_i its n
  unfold ql8 at ei
  dsimp only at ei
  generalize z : (T == "list" && Nat.ble its.size sizeLine) = q at ei
  cases q
  . exact q6q ei
  obtain rfl := w4z ei
  obtain ⟨z1, z2⟩ := Bool.and_eq_true_iff.mp z
  obtain rfl := eq_of_beq z1
  exact ⟨n, rfl, rfl, w5z z2⟩
 refine codeAny_builtin F.entry_proto_collect ?_
 rw [Around.under_plainId F.plain_proto_collect _]
 show wpAny _ A.in1 (newList [] >>= fun l => again (.builtin "list.__iadd__" ⟨[l, .ref a], []⟩)) _ _ s
 refine w0z (wpAny_newObj_type ?_)
 refine w2z ⟨plainId_quiet F.plain_list_iadd _, codeAny_builtin F.entry_list_iadd ?_⟩
 rw [Around.under_plainId F.plain_list_iadd _]
 exact wpAny_extend_seq (hsz := hsz) _ a _ 0 (.inl rfl) (Heap.get?_push_size _ rfl) (w6z _ ho) hc hd hR
noncomputable def jm4 (prog : Program) (w : World) (A : Around) (Q : α -> Shared -> Prop) (E : VP) (s : Shared) (G : Prop) : View α -> Prop
 | .skip u => wpAny (model prog w) A u Q E s -> G
 | .fresh k => wpAny (model prog w) A (k s.toks) Q E { s with toks := s.toks + 1 } -> G
 | .ask k => wpAny (model prog w) A (k ⟨prog, w.params⟩) Q E s -> G
 | .alloc o k => wpAny (model prog w) A (k s.heap.objs.size) Q E { s with heap := s.heap.push o } -> G
 | .load a k => ∀ o, s.heap.get? a = some o -> wpAny (model prog w) A (k o) Q E s -> G
 | .update a g k => ∀ o, s.heap.get? a = some o -> wpAny (model prog w) A (k ()) Q E { s with heap := s.heap.update a g } -> G
 | .call c k => (∀ (Γ : PySem.Ctx) (p : Pos), Γ.In A -> wpCode (model prog w) (Γ.enter c none p) (fun r s' => wpAny (model prog w) A (k r) Q E s') p s) -> G
 | .stop => True
theorem xr9 {A : Around} {Q : α -> Shared -> Prop} {E : VP} {s : Shared} (t : Sem α) : jm4 prog w A Q E s (wpAny (model prog w) A t Q E s) (xi7 t) := by
 induction t with
 | rule _ k => exact fun h Γ p hΓ => h Γ p hΓ
 | «at» q k => exact fun h Γ p hΓ => h Γ q hΓ
 | point _ k => exact fun h Γ p hΓ => h Γ p hΓ
 | fresh k => exact fun h Γ p hΓ => h Γ p hΓ
 | ask k => exact fun h Γ p hΓ => h Γ p hΓ
 | alloc o k => exact fun h Γ p hΓ => h Γ p hΓ
 | load a q k => exact fun o e h Γ p hΓ => (Sem.wp_load ..).mpr ⟨o, e, h Γ p hΓ⟩
 | update a q g k => exact fun o e h Γ p hΓ => (Sem.wp_update ..).mpr ⟨by rw [e]; rfl, h Γ p hΓ⟩
 | call c m gd l k =>
  induction m with
  | none => exact fun h Γ p hΓ => wpCode_mono (fun r s' z => z Γ p hΓ) (h Γ p hΓ)
  | some _ => exact trivial
 | _ => exact trivial
theorem ent {A : Around} {c : Code} {R : Result -> Shared -> Prop} {s : Shared} (h : codeAny (model prog w) A c R s) : ∀ (Γ : PySem.Ctx) (p : Pos), Γ.In A -> wpCode (model prog w) (Γ.enter c none p) R p s := fun Γ p hΓ => h _ p rfl (hΓ.enter c none p (by intro z; exact q6q z))
theorem xu6 {sub : Sem Fin -> Rt -> Rk Fin -> Prop} (ha : AcOk sub) (hs : WpOk prog w U g d os sub) (ho : ∀ p ∈ olds, U.get? p.1 = some p.2) (f : Nat) : WpOk prog w U g d os (goS ⟨prog, w.params⟩ olds sub (α := α) f) := by
 induction f with
 | zero => exact fun t st K A Q E h x hK D y => y _ _ _ x D
 | succ f ih =>
  intro t st K A Q E h x hK D y
  have vo := xr9 (prog := prog) (w := w) (A := A) (Q := Q) (E := E) (s := ⟨h, g, d, st.tk, os⟩) t
  have stop : K t st -> wpAny (model prog w) A t Q E ⟨h, g, d, st.tk, os⟩ := fun z => y _ _ _ z D
  replace x : zb7 ⟨prog, w.params⟩ olds sub (goS ⟨prog, w.params⟩ olds sub f) t st K := x
  unfold zb7 at x
  generalize wpAny (model prog w) A t Q E ⟨h, g, d, st.tk, os⟩ = G at stop vo ⊢
  generalize xi7 t = v at x vo
  induction v with
  | skip t => exact vo (ih t st K A Q E h x hK D y)
  | fresh k => exact vo (ih _ { st with tk := st.tk + 1 } K A Q E h x hK D y)
  | ask k => exact vo (ih _ st K A Q E h x hK D y)
  | alloc o k =>
   dsimp only at x
   induction e : o.isFreed with
   | true => rw [e] at x; exact x.elim
   | false => rw [e] at x; exact vo (ih _ { st with ns := (h.objs.size, o) :: st.ns } K A Q E _ (x _) hK (D.alloc e) y)
  | load a k =>
   dsimp only at x
   induction e : qz1 olds st.ns st.sc with
   | none => rw [e] at x; exact x.elim
   | some p =>
    rw [e] at x
    obtain rfl : a = p.1 := xk9 ha f _ _ K x hK (a, p.1) (.head _)
    exact vo _ (xj2 ho D e) (ih _ { st with sc := st.sc / 64, ac := (p.1, p.1) :: st.ac } K A Q E h x hK D y)
  | update a u k =>
   dsimp only at x
   induction hp : st.ns[st.ns.length - 1 - st.sc % 64 / 2]? with
   | none => rw [hp] at x; exact x.elim
   | some p =>
    rw [hp] at x
    dsimp only at x
    induction e : (u p.2).isFreed with
    | true => rw [e] at x; exact x.elim
    | false =>
     rw [e] at x
     obtain rfl : a = p.1 := xk9 ha f _ _ K x hK (a, p.1) (.head _)
     exact vo _ (D.at _ _ _ hp) (ih _ { st with ns := st.ns.set (st.ns.length - 1 - st.sc % 64 / 2) (p.1, u p.2), sc := st.sc / 64, ac := (p.1, p.1) :: st.ac } K A Q E _ x hK (D.update hp e) y)
  | call c k =>
   dsimp only at x
   induction ec : xc2 c with
   | none =>
    rw [ec] at x
    exact vo (ent (zt3 ha hs 5 c st _ A (fun r s' => wpAny (model prog w) A (k r) Q E s') h x (fun r st' q => xk9 ha f _ _ K q hK) D (fun r st' h' q D' => ih _ _ K A Q E _ q hK D' y)))
   | some a =>
    rw [ec] at x
    dsimp only at x
    induction ep : qz1 olds st.ns st.sc with
    | none => rw [ep] at x; exact x.elim
    | some q =>
     rw [ep] at x
     dsimp only at x
     induction ei : ql8 q.2 with
     | none => rw [ei] at x; exact x.elim
     | some items =>
      rw [ei] at x
      obtain rfl : a = q.1 := xk9 ha f _ _ K (x 0) hK (a, q.1) (.head _)
      have D1 := D.alloc (o := ⟨.type "list", none, .seq #[] 0, #[]⟩) rfl
      exact vo (ent (zo8 ec (xj2 ho D ep) ei (ih _ { st with ns := (_, xl8 items) :: st.ns, sc := st.sc / 64, ac := (q.1, q.1) :: st.ac } K A Q E _ (x _) hK (D1.update (i := 0) rfl rfl) y)))
  | stop => exact stop x
theorem ze5 (ho : ∀ p ∈ olds, U.get? p.1 = some p.2) (n : Nat) : AcOk (lev ⟨prog, w.params⟩ olds n) /\ WpOk prog w U g d os (lev ⟨prog, w.params⟩ olds n) := by
 induction n with
 | zero => exact ⟨fun _ _ _ h => h.elim, fun _ _ _ _ _ _ _ h => h.elim⟩
 | succ n ih => exact ⟨xk9 ih.1 3000, xu6 ih.1 ih.2 ho 3000⟩
end
noncomputable def runT (S : Setting) (olds : Prs) (as : List Addr) {α : Type} : Nat -> Nat -> Sem α -> Prs -> Tok -> Sem α × Prs × Tok
 | 0, _, t, ns, tk => (t, ns, tk)
 | f + 1, sc, t, ns, tk => match xi7 t with
  | .skip t => runT S olds as f sc t ns tk
  | .fresh k => runT S olds as f sc (k tk) ns (tk + 1)
  | .ask k => runT S olds as f sc (k S) ns tk
  | .alloc o k => runT S olds as f sc (k (as.getD ns.length 0)) ((as.getD ns.length 0, o) :: ns) tk
  | .load _ k => match qz1 olds ns sc with
   | none => (t, ns, tk)
   | some p => runT S olds as f (sc / 64) (k p.2) ns tk
  | .update _ g k => match ns[ns.length - 1 - sc % 64 / 2]? with
   | none => (t, ns, tk)
   | some p => runT S olds as f (sc / 64) (k ()) (ns.set (ns.length - 1 - sc % 64 / 2) (p.1, g p.2)) tk
  | .call c k => match xc2 c, qz1 olds ns sc with
   | some _, some p => match ql8 p.2 with
    | some items => runT S olds as f (sc / 64) (k (.ok (.ret (.ref (as.getD ns.length 0))))) ((as.getD ns.length 0, xl8 items) :: ns) tk
    | none => (t, ns, tk)
   | _, _ => (t, ns, tk)
  | .stop => (t, ns, tk)
noncomputable def adr (as : List Addr) (olds : Prs) : Nat -> Nat -> List Addr -> List Addr
 | 0, _, r => r
 | n + 1, sc, r => adr as olds n (sc / 64) ((match Nat.beq (sc % 2) 0 with | true => as.getD (sc % 64 / 2) 0 | false => (olds.getD (sc % 64 / 2) (0, emptyDict)).1) :: r)
theorem xw3 : ∀ {l : List (Addr × Addr)}, l.map (·.1) = l.map (·.2) -> Ok l
 | p :: l, h, _, .head _ => (List.cons.inj h).1
 | p :: l, h, _, .tail _ m => xw3 (List.cons.inj h).2 _ m
structure Leaves (L R : List Addr) (P : Prop) : Prop where
 eq : L = R
 p : P
noncomputable def AllA : Nat -> List Addr -> (List Addr -> Prop) -> Prop
 | 0, as, P => P as
 | n + 1, as, P => ∀ a, AllA n (as ++ [a]) P
theorem AllA.lv {P : List Addr -> Prop} {L : List Addr -> List Addr} : ∀ {n as}, AllA n as P -> AllA n as fun as => Leaves (L as) (L as) (P as)
 | 0, _, x => ⟨rfl, x⟩
 | _ + 1, _, x => fun a => AllA.lv (x a)
noncomputable def jm3 {α : Type} (t : Sem α) : Option Code := match xi7 t with
 | .call c _ => some c
 | _ => none
noncomputable def zh2 {α : Type} (t : Sem α) (r : Result) : Sem α := match xi7 t with
 | .call _ k => k r
 | _ => t
noncomputable def ap2 {α β γ : Type} (F : α -> β -> γ) (a : α) (b : β) : γ := F a b
section
variable {α : Type} {prog : Program} {w : World} {A : Around} {Q : α -> Shared -> Prop} {E : VP} {U h : Heap} {g : Array GenState} {d : Drawn} {os : OsState} {t : Sem α} {tk : Tok} {ns : Prs}
theorem zc1 (olds : Prs) (as : List Addr) (k m f sc n : Nat) (ho : ∀ p ∈ olds, U.get? p.1 = some p.2) (D : Mem U h [] ns)
 (e : AllA k as (fun as => Leaves (adr as olds n sc []) (adr as olds n sc []) (∀ h', Mem U h' [] (runT ⟨prog, w.params⟩ olds as f sc t ns tk).2.1 -> wpAny (model prog w) A (runT ⟨prog, w.params⟩ olds as f sc t ns tk).1 Q E ⟨h', g, d, (runT ⟨prog, w.params⟩ olds as f sc t ns tk).2.2, os⟩)) =
  goS ⟨prog, w.params⟩ olds (lev ⟨prog, w.params⟩ olds m) f t ⟨ns, sc, tk, []⟩ fun t' st => Leaves (st.ac.map (·.1)) (st.ac.map (·.2)) (∀ h', Mem U h' [] st.ns -> wpAny (model prog w) A t' Q E ⟨h', g, d, st.tk, os⟩))
 (x : AllA k as (fun as => ∀ h', Mem U h' [] (runT ⟨prog, w.params⟩ olds as f sc t ns tk).2.1 -> wpAny (model prog w) A (runT ⟨prog, w.params⟩ olds as f sc t ns tk).1 Q E ⟨h', g, d, (runT ⟨prog, w.params⟩ olds as f sc t ns tk).2.2, os⟩)) :
 wpAny (model prog w) A t Q E ⟨h, g, d, tk, os⟩ :=
 have hl := ze5 (prog := prog) (w := w) (g := g) (d := d) (os := os) ho m
 xu6 hl.1 hl.2 ho f t ⟨ns, sc, tk, []⟩ _ A Q E h (Eq.mp e (AllA.lv x)) (fun _ _ q => xw3 q.eq) D fun _ _ h' q D' => q.p h' D'
theorem xo8 (olds : Prs) (as : List Addr) (k m f sc n : Nat) (v : List Addr -> α) (ns' : List Addr -> Prs) (tk' : Tok) (ho : ∀ p ∈ olds, U.get? p.1 = some p.2) (D : Mem U h [] ns)
 (e : AllA k as (fun as => Leaves (adr as olds n sc []) (adr as olds n sc []) (∀ h', Mem U h' [] (ns' as) -> Q (v as) ⟨h', g, d, tk', os⟩)) =
  goS ⟨prog, w.params⟩ olds (lev ⟨prog, w.params⟩ olds m) f t ⟨ns, sc, tk, []⟩ fun t' st => Leaves (st.ac.map (·.1)) (st.ac.map (·.2)) (∀ h', Mem U h' [] st.ns -> fin (model prog w) A Q E ⟨h', g, d, st.tk, os⟩ t'))
 (x : AllA k as (fun as => ∀ h', Mem U h' [] (ns' as) -> Q (v as) ⟨h', g, d, tk', os⟩)) :
 wpAny (model prog w) A t Q E ⟨h, g, d, tk, os⟩ :=
 have hl := ze5 (prog := prog) (w := w) (g := g) (d := d) (os := os) ho m
 xu6 hl.1 hl.2 ho f t ⟨ns, sc, tk, []⟩ _ A Q E h (Eq.mp e (AllA.lv x)) (fun _ _ q => xw3 q.eq) D fun _ _ h' q D' => jk9 (q.p h' D')
theorem zi6 {f : Value} {pos : List Value} {kw : List (Str × Value)} {s : Shared} (e : jm3 t = some (.call f ⟨pos, kw⟩)) (x : wpAny (model prog w) A (call f pos kw) (fun v s' => wpAny (model prog w) A (zh2 t (.ok (.ret v))) Q E s') (fun v s' => wpAny (model prog w) A (zh2 t (.error v)) Q E s') s) : wpAny (model prog w) A t Q E s := by
 have vo := xr9 (prog := prog) (w := w) (A := A) (Q := Q) (E := E) (s := s) t
 generalize wpAny (model prog w) A t Q E s = G at vo ⊢
 unfold jm3 at e
 unfold zh2 at x
 generalize xi7 t = v at e x vo
 induction v with
 | call c k =>
  obtain rfl := w4z e
  refine vo fun Γ p hΓ => ?_
  have y := x Γ p hΓ
  unfold call at y
  rw [Sem.wp_runValue] at y
  refine wpCode_mono (fun r s' z => ?_) y
  induction r with
  | ok v => induction v with
   | ret v => exact fun Γ' p' h' => z Γ' p' h'
   | _ => exact z.elim
  | error v => exact z
 | _ => exact q6q e
theorem zi4 {FF : Args -> ((Value -> Bool) -> List Value -> List Value) -> Sem α} {b : Args -> Sem α} {args : Args} {s : Shared} (e : ∀ args φ, @List.filter Value = φ -> FF args φ = b args) (x : wpAny (model prog w) A (ap2 FF args (@List.filter Value)) Q E s) : wpAny (model prog w) A (b args) Q E s := e args _ rfl ▸ x
theorem zt6 {FF : Args -> ((Value -> Bool) -> List Value -> List Value) -> Sem α} {args : Args} (l l' : List Addr -> List Value) (el : ∀ as, l as = l' as) (olds : Prs) (as : List Addr) (k m f sc n : Nat) (ho : ∀ p ∈ olds, U.get? p.1 = some p.2) (D : Mem U h [] ns)
 (e : AllA k as (fun as => Leaves (adr as olds n sc []) (adr as olds n sc []) (∀ h', Mem U h' [] (runT ⟨prog, w.params⟩ olds as f sc (ap2 FF args fun _ _ => l as) ns tk).2.1 -> wpAny (model prog w) A (runT ⟨prog, w.params⟩ olds as f sc (ap2 FF args fun _ _ => l as) ns tk).1 Q E ⟨h', g, d, (runT ⟨prog, w.params⟩ olds as f sc (ap2 FF args fun _ _ => l as) ns tk).2.2, os⟩)) =
  goS ⟨prog, w.params⟩ olds (lev ⟨prog, w.params⟩ olds m) f (ap2 FF args (@List.filter Value)) ⟨ns, sc, tk, []⟩ fun t' st => Leaves (st.ac.map (·.1)) (st.ac.map (·.2)) (∀ h', Mem U h' [] st.ns -> wpAny (model prog w) A t' Q E ⟨h', g, d, st.tk, os⟩))
 (x : AllA k as (fun as => ∀ h', Mem U h' [] (runT ⟨prog, w.params⟩ olds as f sc (ap2 FF args fun _ _ => l' as) ns tk).2.1 -> wpAny (model prog w) A (runT ⟨prog, w.params⟩ olds as f sc (ap2 FF args fun _ _ => l' as) ns tk).1 Q E ⟨h', g, d, (runT ⟨prog, w.params⟩ olds as f sc (ap2 FF args fun _ _ => l' as) ns tk).2.2, os⟩)) :
 wpAny (model prog w) A (ap2 FF args (@List.filter Value)) Q E ⟨h, g, d, tk, os⟩ := by
 obtain rfl : l = l' := funext el
 have hl := ze5 (prog := prog) (w := w) (g := g) (d := d) (os := os) ho m
 exact xu6 hl.1 hl.2 ho f _ ⟨ns, sc, tk, []⟩ _ A Q E h (Eq.mp e (AllA.lv x)) (fun _ _ q => xw3 q.eq) D fun _ _ h' q D' => q.p h' D'
end
end
noncomputable def Tr.del : Nat -> Tr -> Nat -> Tr
 | 0, t, _ => t
 | f + 1, t, i => match t with
  | .nil => .nil
  | .node w l r => match Nat.beq i 0 with
   | true => .node none l r
   | false => match Nat.beq (i % 2) 1 with
    | true => .node w (Tr.del f l (i / 2)) r
    | false => .node w l (Tr.del f r (i / 2 - 1))
theorem Tr.del_node (f : Nat) (w : Option AO) (l r : Tr) (i : Nat) : Tr.del (f + 1) (.node w l r) i = if i = 0 then .node none l r else if i % 2 = 1 then .node w (Tr.del f l (i / 2)) r else .node w l (Tr.del f r (i / 2 - 1)) := by
 conv => lhs; unfold Tr.del
 rw [qk6, qk6]
 by_cases h : i = 0
 . simp [h]
 . by_cases q : i % 2 = 1 <;> simp [h, q]
theorem Tr.get_del : ∀ (f : Nat) (t : Tr) (i j : Nat), i + 1 < 2 ^ f -> (Tr.del f t i).get j = if j = i then none else t.get j
 | 0, _, _, _, h => (zr4 h).elim
 | f + 1, .nil, i, j, h => by
  show Tr.nil.get j = _
  exact (ite_self _).symm
 | f + 1, .node w l r, i, j, h => by
  rw [Tr.del_node]
  exact get_upd (fun h1 j => get_del f l _ j (xf0 h h1)) fun h0 h1 j => get_del f r _ j (xf1 h h0 h1)
noncomputable def Hp.del (H : Hp) (i : Nat) : Hp := ⟨H.n, Tr.del 40 H.t i⟩
section
variable {g : Gl} {prog : Program} {cx : Cx} {n : Nat}
theorem Inv.forget {V : List Addr} {st : St} {s : Shared} (I : Inv g cx V st s) {h' : Heap} (tk : Nat) {i : Nat} {a : Addr} {o : Obj} (hi : V[i]? = some a) (hs : ∀ b o, s.heap.get? b = some o -> b ≠ a -> h'.get? b = some o) (ho : h'.get? a = some o)
 (hl : Nat.blt i z5q = true) : Inv g cx V { st with H := st.H.del i } { s with heap := h', toks := tk } /\ Ext cx V s.heap V h' := by
 have ha := w7z hi
 refine I.move (Pre.refl V) (fun _ h1 h2 => absurd h1 h2) I.nodup (fun b hb => ?_) (fun b o e nb _ => ?_) (fun j ao' e => ?_) I.size (I.loc_keep (Pre.refl V) fun o e => ?_) rfl
 . by_cases q : b = a
   . exact ⟨o, q ▸ ho⟩
   . obtain ⟨ob, e⟩ := I.live b hb
     exact ⟨ob, hs b ob e q⟩
 . exact hs b o e fun q => nb (q ▸ ha)
 . have e' : (Tr.del 40 st.H.t i).get j = some ao' := e
   rw [Tr.get_del _ _ _ _ (qa6 hl)] at e'
   by_cases q : j = i
   . rw [if_pos q] at e'; cases e'
   . rw [if_neg q] at e'
     obtain ⟨b, ob, h1, h2, h3⟩ := I.heap j ao' e'
     refine ⟨b, ob, h1, hs b ob h2 (fun z => ?_), h3⟩
     subst z
     obtain ⟨p1, e1⟩ := List.getElem?_eq_some_iff.mp h1
     obtain ⟨p2, e2⟩ := List.getElem?_eq_some_iff.mp hi
     exact q ((List.getElem_inj I.nodup).mp (e1.trans e2.symm))
 . exact hs _ o e fun z => (I.own a ha).2.1 z.symm
theorem xu9 : Slot "list_iterator" "__getattribute__" "object.__getattribute__" :=
 .of (owner := "object") (n := "__getattribute__") (by rw [typeLookup_type, builtinLookup_eq_fast]; kernel_rfl) (by decide +kernel) (by decide +kernel) (by decide +kernel)
  (by first | exact .inl (by decide +kernel) | exact .inr (by decide +kernel)) (by rw [isSubtype_type]; kernel_rfl)
section
variable {w : World} {A : Around} {E : VP} {h : Heap} {gs : Array GenState} {d : Drawn} {t : Nat} {os : OsState} {a l : Addr} {o : Obj} {i : Int}
theorem zl2 {s : Shared} {tk : Tok} {Q : VP} (hx : s.heap.get? a = some ⟨.type "list_iterator", none, .fields #[.ref l, .int i 0], #[]⟩)
 (hQ : ∀ b h' tk, PySem.W.X.Mem s.heap h' [] [(b, ⟨.type "method-wrapper", none, .fields #[.builtin "list_iterator.__next__", .ref a], #[]⟩)] -> Q (.ref b) { s with heap := h', toks := tk }) :
 wpAny (model prog w) A (call (.builtin "object.__getattribute__") [.ref a, .str "__next__" tk]) Q E s := by
 obtain ⟨h, g, d, tk1, os⟩ := s
 exact xo8 [(a, ⟨.type "list_iterator", none, .fields #[.ref l, .int i 0], #[]⟩)] [] 1 2 1 17043521 5 (fun as => .ref (as.getD 0 0)) (fun as => [(as.getD 0 0, ⟨.type "method-wrapper", none, .fields #[.builtin "list_iterator.__next__", .ref a], #[]⟩)]) tk1 (fun p hp => by cases hp with | head => exact hx | tail _ z => cases z) (PySem.W.X.Mem.start h) (by kernel_rfl) fun b h' D => hQ b h' tk1 D
theorem zd2 {Q : VP} (hx : h.get? a = some ⟨.type "list_iterator", none, .fields #[.ref l, .int i 0], #[]⟩)
 (hQ : ∀ b h' tk, PySem.W.X.Mem h h' [] [(b, ⟨.type "method-wrapper", none, .fields #[.builtin "list_iterator.__next__", .ref a], #[]⟩)] -> Q (.ref b) ⟨h', gs, d, tk, os⟩) : wpAny (model prog w) A (getAttr (.ref a) "__next__" true) Q E ⟨h, gs, d, t, os⟩ := by
 have f2 := xu9.lookup
 have f3 := xu9.bind (.ref a)
 unfold getAttr getAttrBy
 refine w0z (wpAny_mkText ?_)
 try with_reducible refine w8z ?_
 refine w0z (wpAny_typeOf_ref hx ?_)
 refine w0z (w1z f2 ?_)
 show wpAny _ _ (getAttrByItsOwn (Value.ref a) (Value.str (Str.ofString "__next__") t) (.type "list_iterator") (Value.builtin "object.__getattribute__") true true) Q E _
 unfold getAttrByItsOwn
 refine w0z (w1z (a := none) rfl ?_)
 refine w0z (wpAny_attempt ?_)
 try with_reducible refine w8z ?_
 show wpAny _ _ (boundAndCalled (Value.builtin "object.__getattribute__") (Value.ref a) (Value.str (Str.ofString "__next__") t)) _ _ _
 unfold boundAndCalled
 refine w0z (w1z f3 ?_)
 refine zl2 hx fun b h' tk D => ?_
 exact w2z (hQ b h' tk D)
end
theorem Inv.made {V : List Addr} {st : St} {s : Shared} (I : Inv g cx V st s) {h' : Heap} (tk : Nat) {a : Addr} {o : Obj} {ao : AO} {news : List (Addr × Obj)} (D : PySem.W.X.Mem s.heap h' [] news) (hm : (a, o) ∈ news) (hr : j2q g (V ++ [a]) o ao) (hl : Nat.blt st.H.n z5q = true) :
 Inv g cx (V ++ [a]) { st with H := st.H.push ao } { s with heap := h', toks := tk } /\ Ext cx V s.heap (V ++ [a]) h' :=
 I.alloc tk (D.nw _ hm).2 (D.nw _ hm).1 (fun b o e => D.keep b o e (by simp [PySem.W.X.away])) hr hl
noncomputable def qv8 (a : AV) : AM AV := match a with
 | .ref i => fun st => match st.H.t.get i with
  | some (.liter _ _) => newM (.bound i) st
  | _ => .bad
 | _ => AM.fail
theorem xp7 : zi9 g prog cx n "__next__" qv8 := by
 intro a u A V st s hA hp I hb
 unfold qv8 at hb ⊢
 obtain ⟨i, rfl⟩ := x7q hb
 dsimp only at hb ⊢
 obtain ⟨l, k, e1⟩ := xl0 hb
 . rw [e1] at hb
   try rw [e1]
   dsimp only at hb ⊢
   obtain ⟨y, o, rfl, h1, h2, ⟨al, h3, rfl⟩⟩ := I.obj e1 hp
   unfold newM at hb ⊢
   cases h4 : Nat.blt st.H.n z5q with
   | false => rw [h4] at hb; exact q3q hb
   | true =>
    refine zd2 (h := s.heap) h2 fun b h' tk D => ?_
    have Z := I.made tk D (.head _) (ao := .bound i) ⟨y, Pre.get ⟨[b], rfl⟩ h1, rfl⟩ h4
    exact ⟨.ref st.H.n, _, _, rfl, ⟨b, by rw [I.size]; simp, rfl⟩, Z.1, Z.2⟩
noncomputable def xu4 (a : AV) : AM AV := match a with
 | .ref i => qb8 i fun _ => newM (.liter i 0)
 | _ => AM.fail
theorem xu3 : BiOk g prog cx n "iter" (one xu4) := by
 refine qm4 fun a u => ?_
 intro A V st s hA hp I hb
 unfold xu4 at hb ⊢
 obtain ⟨i, rfl⟩ := x7q hb
 dsimp only at hb ⊢
 obtain ⟨xs, e1, e2⟩ := y1q hb
 rw [e2] at hb ⊢
 obtain ⟨y, o, rfl, h1, h2, vs, n1, hr, rfl⟩ := I.obj e1 hp
 have hl : s.heap.IsList y vs.toArray := ⟨_, h2, rfl, n1, rfl⟩
 refine call_function_entry (by decide +kernel) (by decide +kernel) PySem.W.kdk_entry_iter (PySem.W.kdk_args_iter _) ?_
 unfold Builtin.«iter»
 refine w0z (m := someArgs "iter" 1 2 _) (w1z (a := [Value.ref y]) (by first | rfl | kernel_rfl!) ?_)
 show wpAny _ _ (pyIter (.ref y) >>= _) _ _ _
 refine w0z (wpAny_pyIter_list hl ?_)
 refine w2z ⟨_, rfl, ?_⟩
 exact qi1 (P := fun V => V[i]? = some y) (ao := .liter i 0) (o := { cls := .type "list_iterator", data := .fields #[.ref y, .int 0 0] }) (fun V hV a => ⟨y, Pre.get ⟨[a], rfl⟩ hV, rfl⟩) rfl A V st s hA h1 I hb
end
section
variable {prog : Program} {w : World} {A : Around} {E : VP} {s : Shared} {a l : Addr} {k : Nat} {vs : List Value} {n1 : Nat}
theorem xx4 {P : PySem.Fin -> Shared -> Prop} {x : Value} (ho : s.heap.get? a = some ⟨.type "list_iterator", none, .fields #[.ref l, .int k 0], #[]⟩) (hol : s.heap.get? l = some ⟨.type "list", none, .seq vs.toArray n1, #[]⟩) (hx : vs[k]? = some x)
 (hQ : ∀ h', (∀ b, b ≠ a -> h'.get? b = s.heap.get? b) -> h'.get? a = some ⟨.type "list_iterator", none, .fields #[.ref l, .int ((k + 1 : Nat) : Int) 0], #[]⟩ -> P (.done (.ret x)) { s with heap := h' }) :
 wpAny (model prog w) A (Builtin.«list_iterator.__next__» ⟨[.ref a], []⟩) P E s := by
 show wpAny _ _ (field (.ref a) 0 >>= _) _ _ s
 refine w0z (wpAny_field ho rfl (x := .ref l) rfl ?_)
 show wpAny _ _ (if (Value.ref l == Value.none) = true then _ else _) _ _ s
 rw [if_neg (show ¬ ((Value.ref l == Value.none) = true) from Bool.false_ne_true)]
 show wpAny _ _ (field (.ref a) 1 >>= _) _ _ s
 refine w0z (wpAny_field ho rfl (x := .int k 0) rfl ?_)
 show wpAny _ _ (seqItems? (.ref l) >>= _) _ _ s
 refine w0z (wpAny_seqItems hol rfl ?_)
 have hx' : vs.toArray[k]? = some x := by simpa using hx
 simp only [Int.toNat_natCast, hx']
 refine w0z (wpAny_setField ho rfl (by simp) (w2z (hQ _ (fun b hb => Heap.get?_update_other s.heap _ (Ne.symm hb)) ?_)))
 rw [Heap.get?_update_self _ ho rfl]
 simp [Obj.mapFields, rawInt]
theorem zd3 {P : PySem.Fin -> Shared -> Prop} (hh : A.handled = none) (ho : s.heap.get? a = some ⟨.type "list_iterator", none, .fields #[.ref l, .int k 0], #[]⟩) (hol : s.heap.get? l = some ⟨.type "list", none, .seq vs.toArray n1, #[]⟩) (hx : vs[k]? = none)
 (hE : ∀ h' e ws, (∀ b o, s.heap.get? b = some o -> b ≠ a -> h'.get? b = some o) -> (∃ o, h'.get? a = some o) -> s.heap.get? e = none -> h'.get? e = some ⟨.type "StopIteration", none, .fields ws, #[]⟩ -> 6 <= ws.size -> ws[1]? = some .none -> E (.ref e) { s with heap := h' }) :
 wpAny (model prog w) A (Builtin.«list_iterator.__next__» ⟨[.ref a], []⟩) P E s := by
 show wpAny _ _ (field (.ref a) 0 >>= _) _ _ s
 refine w0z (wpAny_field ho rfl (x := .ref l) rfl ?_)
 show wpAny _ _ (if (Value.ref l == Value.none) = true then _ else _) _ _ s
 rw [if_neg (show ¬ ((Value.ref l == Value.none) = true) from Bool.false_ne_true)]
 show wpAny _ _ (field (.ref a) 1 >>= _) _ _ s
 refine w0z (wpAny_field ho rfl (x := .int k 0) rfl ?_)
 show wpAny _ _ (seqItems? (.ref l) >>= _) _ _ s
 refine w0z (wpAny_seqItems hol rfl ?_)
 have hx' : vs.toArray[k]? = none := by simpa using hx
 simp only [Int.toNat_natCast, hx']
 refine w0z (wpAny_rule (w0z (wpAny_setField ho rfl (by simp) ?_)))
 show wpAny _ _ (newExc (.type "StopIteration") [] >>= _) _ _ _
 refine w0z ?_
 simp only [newExc, newTuple]
 refine w0z (wpAny_newObj_type ?_ (by size_fits))
 refine w0z (m := firstArgMember _ _) (w1z (a := Value.none) (by first | rfl | (simp only [firstArgMember]; rfl)) ?_)
 refine wpAny_newObj_type ?_ (by size_fits)
 simp only [raiseNew]
 refine w0z (wpAny_handled ?_)
 rw [hh]
 refine w0z (w2z (wpAny_throw ?_))
 have hu := Heap.get?_update_self (Obj.mapFields fun xs => xs.setIfInBounds 0 Value.none) ho rfl
 refine hE _ _ _ (fun b o e nb => ?_) ⟨_, w6z _ (w6z _ hu)⟩ ?_ (Heap.get?_push_size _ rfl) (by simp) (by rw [Array.getElem?_append_left (by simp)]; rfl)
 . refine w6z _ (w6z _ ?_)
   rw [Heap.get?_update_other s.heap _ (Ne.symm nb)]; exact e
 . refine Heap.get?_none_of_le ?_
   simp
theorem xz5 : checkBoundCall "list_iterator.__next__" ⟨[.ref a], []⟩ = pure () := by first | kernel_rfl | rfl
theorem xx2 : (Code.builtin "list_iterator.__next__" ⟨[.ref a], []⟩).quiet = true := Code.quiet_builtin _ (by decide +kernel)
theorem jm1 {R : Result -> Shared -> Prop} {b : Addr} (hb : s.heap.get? b = some ⟨.type "method-wrapper", none, .fields #[.builtin "list_iterator.__next__", .ref a], #[]⟩)
 (h : ∀ A' : Around, A'.handled = A.handled -> wpAny (model prog w) A' (Builtin.«list_iterator.__next__» ⟨[.ref a], []⟩) (fun fin s' => match fin with | .done f => R (.ok f) s' | .again _ => False) (fun e s' => R (.error e) s') s) : codeAny (model prog w) A (.call (.ref b) ⟨[], []⟩) R s := by
 refine codeAny_of_tree ?_
 show wpAny _ A.in1 (callAny (.ref b) ⟨[], []⟩) _ _ s
 simp only [callAny]
 refine w0z (wpAny_load hb ?_)
 simp only [show (Value.type "method-wrapper" == Value.type "method" || Value.type "method-wrapper" == Value.type "builtin_function_or_method" || Value.type "method-wrapper" == Value.type "method-wrapper") = true by decide, if_true]
 show wpAny _ _ (if (Value.type "method-wrapper" != Value.type "method") = true then _ else _) _ _ s
 rw [if_pos (by decide)]
 refine w0z (w1z (a := ()) xz5 ?_)
 refine w0z (w2z (w2z ?_))
 refine ⟨xx2, codeAny_builtin entry_listiter_next (w3z (h _ ?_) (fun fin s' q => ?_) fun _ _ q => q)⟩
 . rfl
 . induction fin with
   | done f => exact q
   | again c => exact q.elim
end
section
variable {g : Gl} {prog : Program} {cx : Cx} {n : Nat}
noncomputable def qi0 (i : Nat) : AM (Option AV) := fun st => match st.H.t.get i with
 | some (.liter l k) => match st.H.t.get l with
  | some (.list xs) => match Nat.blt i z5q with
   | true => match xs[k]? with
    | some x => .ok (some x) { st with H := st.H.set i (.liter l (k + 1)) }
    | none => .ok none { st with H := st.H.del i }
   | false => .bad
  | _ => .bad
 | _ => .bad
theorem zb6 {A : Around} {V : List Addr} {st : St} {s : Shared} {i : Nat} {a : Addr} (hh : A.handled = none) (I : Inv g cx V st s) (hi : V[i]? = some a) (hb : qi0 i st ≠ .bad) {P : PySem.Fin -> Shared -> Prop} {E : VP}
 (hP : ∀ x v st' s', qi0 i st = .ok (some x) st' -> repV g.ν V x v -> Inv g cx V st' s' -> Ext cx V s.heap V s'.heap -> P (.done (.ret v)) s')
 (hE : ∀ e ws st' s', qi0 i st = .ok none st' -> s.heap.get? e = none -> s'.heap.get? e = some ⟨.type "StopIteration", none, .fields ws, #[]⟩ -> 6 <= ws.size -> ws[1]? = some .none -> Inv g cx V st' s' -> Ext cx V s.heap V s'.heap -> E (.ref e) s') :
 s.TypeIs (.ref a) "list_iterator" /\ wpAny (model prog g.w) A (Builtin.«list_iterator.__next__» ⟨[.ref a], []⟩) P E s := by
 unfold qi0 at hb hP hE
 induction e1 : st.H.t.get i with
 | none => exact q3q (e1 ▸ hb)
 | some ao =>
  rw [e1] at hb hP hE
  obtain ⟨l, k, rfl⟩ : ∃ l k, ao = .liter l k := by induction ao <;> first | exact ⟨_, _, rfl⟩ | exact q3q hb
  dsimp only at hb hP hE
  induction e2 : st.H.t.get l with
  | none => exact q3q (e2 ▸ hb)
  | some al =>
   rw [e2] at hb hP hE
   obtain ⟨xs, rfl⟩ : ∃ xs, al = .list xs := by induction al <;> first | exact ⟨_, rfl⟩ | exact q3q hb
   dsimp only at hb hP hE
   induction e3 : Nat.blt i z5q with
   | false => exact q3q (e3 ▸ hb)
   | true =>
    rw [e3] at hb hP hE
    dsimp only at hb hP hE
    obtain ⟨y, o, h1, h2, ⟨la, h3, rfl⟩⟩ := I.heap i _ e1
    obtain rfl := w4z (hi.symm.trans h1)
    obtain ⟨lb, ol, h4, h5, ⟨vs, n1, hr, rfl⟩⟩ := I.heap l _ e2
    obtain rfl := w4z (h3.symm.trans h4)
    refine ⟨⟨_, h2, rfl⟩, ?_⟩
    induction e4 : xs[k]? with
    | some x =>
     rw [e4] at hP
     obtain ⟨v, hv, hx⟩ := hr.get e4
     refine xx4 h2 h5 hv fun h' hk ha => ?_
     have Z := I.upd s.toks (i := i) (a := a) (h' := h') (ao := .liter l (k + 1)) hi hk ha ⟨la, h3, rfl⟩ e3
     exact hP x v _ _ rfl hx Z.1 Z.2
    | none =>
     rw [e4] at hE
     have hv : vs[k]? = none := List.getElem?_eq_none (by rw [<- hr.length]; exact List.getElem?_eq_none_iff.mp e4)
     refine zd3 hh h2 h5 hv fun h' e ws hk ha hn he hz h1' => ?_
     obtain ⟨oa, ha⟩ := ha
     have Z := I.forget s.toks (i := i) (a := a) (h' := h') hi hk ha e3
     exact hE e ws _ _ rfl hn he hz h1' Z.1 Z.2
noncomputable def qq3 (b : AV) : AM AV := match b with
 | .ref j => fun st => match st.H.t.get j with
  | some (.bound i) => match qi0 i st with
   | .ok (some x) st' => .ok x st'
   | .ok none st' => .exc 1 st'
   | _ => .bad
  | _ => .bad
 | _ => AM.fail
theorem qx8 {b : AV} {st : St} (h : qq3 b st ≠ .bad) : ∃ j i, b = .ref j /\ st.H.t.get j = some (.bound i) /\ qi0 i st ≠ .bad := by
 unfold qq3 at h
 obtain ⟨j, rfl⟩ := x7q h
 dsimp only at h
 induction e1 : st.H.t.get j with
 | none => exact q3q (e1 ▸ h)
 | some ao =>
  rw [e1] at h
  obtain ⟨i, rfl⟩ : ∃ i, ao = .bound i := by induction ao <;> first | exact ⟨_, rfl⟩ | exact q3q h
  refine ⟨j, i, rfl, e1, fun z => h ?_⟩
  dsimp only
  rw [z]
theorem zp7 (hq : cx.q = true) (b : AV) (u : Value) : RefX g prog cx n (fun V => repV g.ν V b u) (repV g.ν) (call u []) (qq3 b) := by
 intro A V st s hA hp I hb
 obtain ⟨j, i, rfl, e1, hn⟩ := qx8 hb
 obtain ⟨y, o, rfl, h1, h2, ⟨a, h3, rfl⟩⟩ := I.obj e1 hp
 refine wpAny_call (jm1 h2 fun A' hA' => (zb6 (A := A') (hA'.trans (hA.quiet hq)) I h3 hn (fun x v st' s' e hx I' X' => ?_) fun e ws st' s' ee hen he hz hw I' X' => ?_).2)
 . have hf : qq3 (.ref j) st = .ok x st' := by unfold qq3; dsimp only; rw [e1]; dsimp only; rw [e]
   exact ⟨x, st', V, hf, hx, I', X'⟩
 . have hf : qq3 (.ref j) st = .exc 1 st' := by unfold qq3; dsimp only; rw [e1]; dsimp only; rw [ee]
   have nn := I.none_of hen
   exact ⟨1, st', V, hf, ⟨e, _, ws, rfl, hen, nn.2.2.2, nn.2.2.1, nn.2.1, he, rfl, rfl, hz, .inl hw⟩, I', X'⟩
theorem xr8 (hq : cx.q = true) {fe : Expr} {pos : Pos} {f : AM AV} (he : eval (.Call fe [] [] pos) cx.env = (do let u <- eval fe cx.env; callWith pos u [] (backTo pos (starEach [] cx.env)) [])) (h : RefE g prog cx n fe f) :
 RefE g prog cx n (.Call fe [] [] pos) (f.bind qq3) := by
 refine RefX.eq he ?_
 refine RefX.bind Mono.true h fun b u => ?_
 intro A V st s hA hp I hb
 obtain ⟨j, i, rfl, e1, hn⟩ := qx8 hb
 obtain ⟨y, o, rfl, h1, h2, ⟨a, h3, rfl⟩⟩ := I.obj e1 hp.2
 have Z := zp7 (prog := prog) (n := n) hq (.ref j) (.ref y) A V st s hA ⟨y, h1, rfl⟩ I hb
 unfold callWith
 refine w0z (w8z (qf7 (w0z (wpAny_standAt ?_))))
 refine w0z (m := keeperOf (.ref y)) ?_
 unfold keeperOf
 refine w0z (wpAny_load h2 ?_)
 simp only [show (Value.type "method-wrapper" != Value.type "method") = true by decide, show (Value.type "method-wrapper" == Value.type "builtin_function_or_method" || Value.type "method-wrapper" == Value.type "method-wrapper") = true by decide, if_true]
 refine w2z ?_
 exact w0z (w3z Z (fun r sB hr => w0z (w8z (wpAny_point (w2z hr)))) fun _ _ x => x)
noncomputable def itLM (a : AV) : AM AV := match a with
 | .ref i => fun st => match st.H.t.get i with
  | some (.liter _ _) => .ok a st
  | _ => .bad
 | _ => AM.fail
theorem jk0 : ItOk g prog cx n itLM := by
 intro a u A V st s hA hp I hb
 unfold itLM at hb ⊢
 obtain ⟨i, rfl⟩ := x7q hb
 dsimp only at hb ⊢
 obtain ⟨y129_0, y129_1, e1⟩ := xl0 hb
 . rw [e1] at hb
   try rw [e1]
   obtain ⟨y, o, rfl, h1, h2, ⟨a, h3, rfl⟩⟩ := I.obj e1 hp
   exact wpAny_pyIter_listiter ⟨_, h2, rfl, rfl⟩ ⟨.ref i, st, V, rfl, ⟨y, h1, rfl⟩, I, Ext.refl _ _ _⟩
noncomputable def nxLM (a : AV) : AM (Option AV) := match a with
 | .ref i => qi0 i
 | _ => AM.fail
theorem jh4 (hq : cx.q = true) : NxOk g prog cx n nxLM := by
 intro a u A V st s hA hp I hb
 unfold nxLM at hb ⊢
 obtain ⟨i, rfl⟩ := x7q hb
 obtain ⟨y, hy, rfl⟩ := hp
 have key : ∀ (P : PySem.Fin -> Shared -> Prop) (E : VP), _ -> _ -> _ := fun P E hP hE => zb6 (prog := prog) (A := A.in1) (P := P) (E := E) (i := i) (a := y) (show A.in1.handled = none from hA.quiet hq) I hy hb hP hE
 have hT := (key (fun _ _ => True) (fun _ _ => True) (fun _ _ _ _ _ _ _ _ => trivial) fun _ _ _ _ _ _ _ _ _ _ _ => trivial).1
 unfold pyNext
 refine w0z (wpAny_attempt (wpAny_callSpecial?_slot (name := Str.ofString "__next__") hT slot_listiter_next (wpAny_call_entry slot_listiter_next hT entry_listiter_next (key _ _ ?_ ?_).2 (args_listiter_next _))))
 . intro x v st' s' e hx I' X'
   exact ⟨v, rfl, w2z ⟨some x, st', V, e, hx, I', X'⟩⟩
 . intro e ws st' s' ee hen he hz hw I' X'
   refine w0z (wpAny_isInstance (T := "StopIteration") (b := true) ⟨_, he, rfl⟩ isSubtype_stop ?_)
   exact w2z ⟨none, st', V, ee, trivial, I', X'⟩
end
section
set_option hygiene false in
local macro_rules | `(tactic| x_close) => `(tactic| exact hQ _ _)
variable {prog : Program} {w : World} {A : Around} {E : VP} {s : Shared} {Q : VP} {a b c : UInt8} {t u : Tok}
theorem dec1 (hQ : ∀ t' tk, Q (.str ⟨#[a.toNat]⟩ t') { s with toks := tk }) : wpAny (model prog w) A (call (.builtin "bytes.decode") [.bytes #[a] t, .str "latin-1" u]) Q E s := by
 open PySem.W.X in
 x_run
theorem dec2 (hQ : ∀ t' tk, Q (.str ⟨#[a.toNat, b.toNat]⟩ t') { s with toks := tk }) : wpAny (model prog w) A (call (.builtin "bytes.decode") [.bytes #[a, b] t, .str "latin-1" u]) Q E s := by
 open PySem.W.X in
 x_run
theorem dec3 (hQ : ∀ t' tk, Q (.str ⟨#[a.toNat, b.toNat, c.toNat]⟩ t') { s with toks := tk }) : wpAny (model prog w) A (call (.builtin "bytes.decode") [.bytes #[a, b, c] t, .str "latin-1" u]) Q E s := by
 open PySem.W.X in
 x_run
end
section
variable {g : Gl} {prog : Program} {cx : Cx} {n : Nat}
noncomputable def qf4 (i : SI) : Option Nat := match i.lit? with
 | some (.ofNat k) => match Nat.blt k 256 with
  | true => some k
  | false => none
 | _ => none
set_option tactic.hygienic true in
theorem qg4 {i : SI} {k : Nat} (h : qf4 i = some k) (ν : Vl) : (qb7 ν i).toNat = k := by
 unfold qf4 at h
 generalize e : i.lit? = o at h
 rcases o with _ | z <;> try exact q6q h
 rcases z with q | _ <;> try exact q6q h
 dsimp only at h
 generalize e2 : Nat.blt q 256 = b at h
 cases b
 . exact q6q h
 obtain rfl := w4z h
 have : q < 256 := w5z e2
 unfold qb7
 rw [SI.lit_val e ν]
 show (UInt8.ofNat q).toNat = q
 simp [UInt8.toNat_ofNat', Nat.mod_eq_of_lt this]
noncomputable def latin : List Nat := [108, 97, 116, 105, 110, 45, 49]
noncomputable def decM (a b : AV) : AM AV := match a with
 | .bytes x => match b with
  | .str y => match qj5 y latin with
   | true => match x with
    | [i] => match qf4 i with
     | some p => AM.ret (.str [p])
     | none => AM.fail
    | [i, j] => match qf4 i with
     | some p => match qf4 j with
      | some q => AM.ret (.str [p, q])
      | none => AM.fail
     | none => AM.fail
    | [i, j, k] => match qf4 i with
     | some p => match qf4 j with
      | some q => match qf4 k with
       | some r => AM.ret (.str [p, q, r])
       | none => AM.fail
      | none => AM.fail
     | none => AM.fail
    | _ => AM.fail
   | false => AM.fail
  | _ => AM.fail
 | _ => AM.fail
theorem jl3 : BiOk g prog cx n "bytes.decode" (two decM) := by
 refine xs1 fun a b v w => ?_
 intro A V st s hA hp I hb
 obtain ⟨h1, h2⟩ := hp
 unfold decM at hb ⊢
 obtain ⟨x, rfl⟩ := zf4 hb
 obtain ⟨y, rfl⟩ := qo2 hb
 dsimp only at hb ⊢
 induction e : qj5 y latin with
 | false => exact q3q (e ▸ hb)
 | true =>
  rw [e] at hb
  rw [qg3] at e
  have hy := of_decide_eq_true e
  subst hy
  obtain ⟨⟨t, rfl⟩, _⟩ := h1
  obtain ⟨u, rfl⟩ := h2
  have hl : (⟨latin.toArray⟩ : Str) = "latin-1" := by decide +kernel
  rw [hl]
  dsimp only at hb ⊢
  match x with
  | [] => exact q3q hb
  | [i] =>
   dsimp only at hb ⊢
   induction e1 : qf4 i with
   | none => exact q3q (e1 ▸ hb)
   | some p =>
    refine dec1 (a := qb7 g.ν i) fun t' tk => ?_
    rw [qg4 e1]
    exact ⟨.str [p], st, V, rfl, ⟨t', rfl⟩, I.tok _, Ext.refl _ _ _⟩
  | [i, j] =>
   dsimp only at hb ⊢
   induction e1 : qf4 i with
   | none => exact q3q (e1 ▸ hb)
   | some p =>
    rw [e1] at hb
    dsimp only at hb ⊢
    induction e2 : qf4 j with
    | none => exact q3q (e2 ▸ hb)
    | some q =>
     refine dec2 (a := qb7 g.ν i) (b := qb7 g.ν j) fun t' tk => ?_
     rw [qg4 e1, qg4 e2]
     exact ⟨.str [p, q], st, V, rfl, ⟨t', rfl⟩, I.tok _, Ext.refl _ _ _⟩
  | [i, j, k] =>
   dsimp only at hb ⊢
   induction e1 : qf4 i with
   | none => exact q3q (e1 ▸ hb)
   | some p =>
    rw [e1] at hb
    dsimp only at hb ⊢
    induction e2 : qf4 j with
    | none => exact q3q (e2 ▸ hb)
    | some q =>
     rw [e2] at hb
     dsimp only at hb ⊢
     induction e3 : qf4 k with
     | none => exact q3q (e3 ▸ hb)
     | some r =>
      refine dec3 (a := qb7 g.ν i) (b := qb7 g.ν j) (c := qb7 g.ν k) fun t' tk => ?_
      rw [qg4 e1, qg4 e2, qg4 e3]
      exact ⟨.str [p, q, r], st, V, rfl, ⟨t', rfl⟩, I.tok _, Ext.refl _ _ _⟩
  | _ :: _ :: _ :: _ :: _ => exact q3q hb
noncomputable def xe9 (a : AV) (st : St) : Bool := match a with
 | .bytes _ => true
 | _ => false
theorem zg1 : GmOk g prog cx "decode" "bytes.decode" xe9 := by
 intro V st s a u hp I hk A pl Q E h
 unfold xe9 at hk
 induction a <;> try cases hk
 obtain ⟨⟨t, rfl⟩, _⟩ := hp
 exact PySem.W.KBd.method h
end
noncomputable abbrev pctF : Str := "expected %d bytes in a string1, but only %d remain"
theorem zt7 {prog : Program} {w : World} {A : Around} {E : VP} {s : Shared} {Q : VP} {b : Addr} {t u v : Tok} {k : Nat} {n m : Int} (hn0 : 0 <= n) (hn1 : n < 10 ^ 10) (hm0 : 0 <= m) (hm1 : m < 10 ^ 10)
 (ho : s.heap.get? b = some ({ cls := .type "tuple", data := .seq #[.int n u, .int m v] k } : PySem.Obj)) (hQ : ∀ x t' tk, Q (.str x t') { s with toks := tk }) : wpAny (model prog w) A (binaryOp .Mod (.str pctF t) (.ref b)) Q E s := by
 have N : News ({ objs := #[] } : Heap) (b + 1) s.heap [(b, ({ cls := .type "tuple", data := .seq #[.int n u, .int m v] k } : PySem.Obj))] := by
  intro p hp
  rw [List.mem_singleton.mp hp]
  exact ⟨ho, Nat.ne_of_lt (Nat.lt_succ_self b), by simp [Heap.get?]⟩
 k_dflt (refine' KPt.mod_tuple ?kptN ?kptb ?kptF ?kptm ?_; (case kptN => exact N); (case kptb => k_mem); (case kptF => kpt_eq); (case kptm => kpt_run))
 intro _ _
 exact hQ _ _ _
section
variable {g : Gl} {prog : Program} {cx : Cx} {n : Nat}
theorem zq2 {B newId initId : String} {bmB : List Value} (F : ExcBaseFacts B newId initId bmB) {C : Addr} {y : Str} (O : OwnCls y C bmB newId g.mg g.U) (hB : bmB.contains (.type "BaseException") = true)
 {x : Str} {np cpos pos : Pos} {es : List Expr} {fs : List (AM AV)} {k : Nat} (hq : cx.q = true) (hc : (.ref C : Value) = qx5 k)
 (hx : RefE g prog cx n (.Name x np) (AM.ret (.stat (.ref C)))) (hs : qc0 g prog cx n es fs) : RefS g prog cx n (.Raise (some (.Call (.Name x np) es [] cpos)) none pos) (qj0 k fs) := by
 intro A V st s hA hp I hb
 obtain ⟨bm, N, nm, q, bs, hdct, sn, sub, ab, col, dd, k0, k1, k2, k3, k5, mN, hC, hN, hni, T⟩ := O.obj
 refine wpAny_Raise_call_subT (C := C) (nm := nm) (q := q) (N := N) (bs := bs) (bm := bm) (hdct := hdct) (sn := sn) (sub := sub) (ab := ab) (col := col) (dd := dd) (k0 := k0) (k1 := k1) (k2 := k2) (k3 := k3) (k5 := k5) (mN := mN) F (T.hasType hB) (hA.quiet hq) (u0q hs) hni (w3z (hx A V st s hA trivial I (fun z => nomatch z)) ?_ ?_)
 . rintro v s₁ ⟨b, st₁, VA, e, hr, I₁, XA⟩
   obtain ⟨rfl, rfl⟩ := z7q e
   subst hr
   refine ⟨rfl, ?_⟩
   refine w3z (Q := fun a sB => ∃ VB as stB, q8q fs st = .ok as stB /\ a.kw = [] /\ reps g.ν VB as a.pos /\ Inv g cx VB stB sB /\ Ext cx V s.heap VB sB.heap) (w3z (xw1 (u := .ref C) (pos := cpos) hs A VA st s₁ hA trivial I₁ (x5q hb)) ?_ ?_) ?_ fun _ _ z => z
   . rintro a sB ⟨as, stB, VB, eB, ⟨hk, hrB⟩, IB, XB⟩
     exact ⟨VB, as, stB, eB, hk, hrB, IB, XA.trans XB⟩
   . rintro w sB ⟨c, stB, VB, eB, hrB, IB, XB⟩
     refine ⟨c, stB, VB, ?_, hrB.mono XA XB.pre, IB, XA.trans XB⟩
     unfold qj0 AM.bind; rw [eB]
   . rintro a sB ⟨VB, as, stB, eB, hk, hrB, IB, XB⟩
     have hf : qj0 k fs st = (match Nat.ble as.length 100 with
      | true => (fun st => .exc k st : AM AF)
      | false => AM.fail) stB := by unfold qj0; exact w1q eB
     rw [hf] at hb ⊢
     induction hl : Nat.ble as.length 100 with
     | false => rw [hl] at hb; exact q3q hb
     | true =>
      have hle := w5z hl
      refine ⟨hk, ?_, IB.base _ _ hC, hN.keeps IB.base, T.keeps IB.base, fun h' e hm => ?_⟩
      . have : (100 : Nat) <= sizeLine := by decide
        rw [<- hrB.length]; exact Nat.le_trans (by assumption) (by decide)
      . obtain ⟨t, ht, _, _⟩ := hm.there
        obtain ⟨c, stC, VC, e₃, hrC, IC, XC⟩ := zc6 (β := AF) IB (k := k) hc hm.keeps hm.new ht
        exact ⟨c, stC, VC, e₃, hrC.mono XB XC.pre, IC, XB.trans XC⟩
 . rintro w sB ⟨c, stB, VB, eB, hrB, IB, XB⟩
   exact qj7 eB
theorem ze0 {newId : String} {bmB : List Value} {C : Addr} {y : Str} (O : OwnCls y C bmB newId g.mg g.U) (hB : bmB.contains (.type "BaseException") = true) {k : Nat} (hc : (.ref C : Value) = qx5 k) : qy2 g prog k (.ref C) := by
 intro A Q E s a o ho hcl hk hQ
 obtain ⟨bm, N, nm, q, bs, hdct, sn, sub, ab, col, dd, k0, k1, k2, k3, k5, mN, hC, hN, hni, T⟩ := O.obj
 exact wpAny_excMatches_sub_self (hk _ _ hC) ho (hcl.trans hc.symm) (T.hasType hB) hQ
noncomputable def anyR {α β : Type} : List Addr -> β -> α -> Prop := fun _ _ _ => True
theorem zq3 {x : Str} {np cpos pos : Pos} {e : Expr} {f : AM Unit} {k : Nat} {cls newId initId : String} (hq : cx.q = true) (hc : (.type cls : Value) = qx5 k) (F : ExcCallFacts cls newId initId) (G : ExcRaiseFacts cls)
 (hx : RefE g prog cx n (.Name x np) (AM.ret (.stat (.type cls)))) (hs : starEach [e] cx.env = [(false, eval e cx.env)]) (he : RefX g prog cx n TT anyR (eval e cx.env) f) :
 RefS g prog cx n (.Raise (some (.Call (.Name x np) [e] [] cpos)) none pos) (f.bind fun _ => (fun st => .exc k st)) := by
 intro A V st s hA hp I hb
 have hpl : (backTo cpos (starEach [e] cx.env)).any (·.1) = false := by rw [hs]; rfl
 refine wpAny_Raise_call F G (hA.quiet hq) hpl (w3z (hx A V st s hA trivial I (fun z => nomatch z)) ?_ ?_)
 . rintro v s₁ ⟨b, st₁, VA, e', hr, I₁, XA⟩
   cases e'
   subst hr
   refine ⟨rfl, ?_⟩
   have hs' : starEach (e :: []) cx.env = (false, eval e cx.env) :: starEach [] cx.env := hs
   obtain ⟨x', rest, e1, e2⟩ := w6q (pos := cpos) hs'
   have items : wpAny (model prog g.w) A (spliced (backTo cpos (starEach (e :: []) cx.env))) (fun vs sB => vs.length = 1 /\ ∃ u stB VB, f st = .ok u stB /\ Inv g cx VB stB sB /\ Ext cx V s.heap VB sB.heap) (fun v s' => EOk g cx V s ((f.bind fun _ => (fun st => .exc k st : AM AF)) st) v s') s₁ := by
    refine wpAny_items_cons (w3z (he A VA st s₁ hA trivial I₁ (x5q hb)) ?_ ?_) hs'
    . rintro v sB ⟨u, stB, VB, eB, _, IB, XB⟩
      exact wpAny_items_nil ⟨rfl, u, stB, VB, eB, IB, XA.trans XB⟩
    . rintro w sB ⟨c, stB, VB, eB, hrB, IB, XB⟩
      exact ⟨c, stB, VB, by unfold AM.bind; rw [eB], hrB.mono XA XB.pre, IB, XA.trans XB⟩
   rw [e1] at items ⊢
   refine evalArgs_plain (w3z items ?_ fun _ _ q => q)
   rintro vs sB ⟨hl, u, stB, VB, eB, IB, XB⟩
   refine ⟨rfl, ?_, fun h' ex hm => ?_⟩
   . have : (1 : Nat) <= sizeLine := by decide
     show vs.length <= _
     exact Nat.le_trans (Nat.le_of_eq (by assumption)) (Nat.le_trans (by assumption) (by decide))
   . obtain ⟨t, ht, _, _⟩ := hm.there
     obtain ⟨c, stC, VC, e₃, hrC, IC, XC⟩ := zc6 (β := AF) IB (k := k) hc hm.keeps hm.new ht
     exact ⟨c, stC, VC, (w1q eB).trans e₃, hrC.mono XB XC.pre, IC, XB.trans XC⟩
 . rintro w sB ⟨c, stB, VB, eB, hrB, IB, XB⟩
   exact qj7 eB
noncomputable def ql3 (i : SI) : Bool := match i.lit? with
 | some (.ofNat k) => Nat.blt k 1000
 | _ => false
noncomputable def pctM (ft : AM AV) : AM Unit := ft.bind fun a => match a with
 | .ref i => fun st => match st.H.t.get i with
  | some (.tuple [.int p, .int q]) => match ql3 p && ql3 q with
   | true => .ok () st
   | false => .bad
  | _ => .bad
 | _ => AM.fail
set_option tactic.hygienic true in
theorem qu6 {i : SI} (h : ql3 i = true) (ν : Vl) : 0 <= i.val ν /\ i.val ν < 10 ^ 10 := by
 unfold ql3 at h
 generalize e : i.lit? = o at h
 rcases o with _ | z <;> try exact j7q h
 rcases z with k | _ <;> try exact j7q h
 rw [SI.lit_val e ν]
 have : k < 1000 := w5z h
 constructor
 . exact Int.natCast_nonneg k
 . have h2 : ((k : Nat) : Int) < 1000 := by exact_mod_cast this
   have h3 : (1000 : Int) < 10 ^ 10 := by decide
   exact Int.lt_trans h2 h3
set_option tactic.hygienic true in
theorem jh1 {x : Str} {c : Nat} {pc pos : Pos} {r : Expr} {f : AM AV} (hx : x = pctF) (h : RefE g prog cx n r f) : RefX g prog cx n TT anyR (eval (.BinOp (.Constant (.str x) c pc) .Mod r pos) cx.env) (pctM f) := by
 subst hx
 refine RefW.toX (T := fun A Q E s => wpAny (model prog g.w) A (eval r cx.env) (fun v sB => wpAny (model prog g.w) A (binaryOp .Mod (.str pctF s.toks) v) Q E sB) E { s with toks := s.toks + 1 }) (fun A Q E s h => wpAny_BinOp (wpAny_Constant_str h)) ?_
 intro A V st s hA hp I hb Q E hq hx
 refine w3z (h A V st _ hA trivial (I.tok (s.toks + 1)) (x5q hb)) ?_ ?_
 . rintro v s₁ ⟨a, st₁, VA, e, hr, I₁, XA⟩
   unfold pctM at hb hq hx
   rw [w1q e] at hb hq hx
   obtain ⟨i, rfl⟩ := x7q hb
   dsimp only at hb hq hx
   generalize e1 : st₁.H.t.get i = o at hb hq
   rcases o with _ | o <;> try exact q3q hb
   cases o <;> try exact q3q hb
   rename_i xs
   rcases xs with _ | ⟨z, xs⟩ <;> try exact q3q hb
   cases z <;> try exact q3q hb
   rename_i p
   rcases xs with _ | ⟨z, xs⟩ <;> try exact q3q hb
   cases z <;> try exact q3q hb
   rename_i q
   rcases xs with _ | ⟨_, _⟩ <;> try exact q3q hb
   dsimp only at hb hq
   generalize hs : (ql3 p && ql3 q) = b at hb hq
   cases b
   . exact q3q hb
   obtain ⟨hs1, hs2⟩ := Bool.and_eq_true_iff.mp hs
   obtain ⟨y, o, rfl, h1, h2, vs, n1, hrs, rfl⟩ := I₁.obj e1 hr
   obtain ⟨u, v, rfl, ⟨t, rfl⟩, t', rfl⟩ := zk2 hrs
   exact zt7 (qu6 hs1 _).1 (qu6 hs1 _).2 (qu6 hs2 _).1 (qu6 hs2 _).2 h2 fun x t' tk => hq _ _ ⟨(), st₁, VA, rfl, trivial, I₁.tok _, XA⟩
 . rintro w sB ⟨c, stB, VB, eB, hrB, IB, XB⟩
   exact hx _ _ ⟨c, stB, VB, by unfold pctM AM.bind; rw [eB], hrB, IB, XB⟩
noncomputable def zq1 (p : Nat) (as : List AV) : AM (List AV) := match Nat.ble p as.length with
 | true => v0q as ((newM (.tuple (as.drop p))).bind fun t => AM.ret (as.take p ++ [t]))
 | false => AM.fail
theorem xv9 {fd : FuncData} {ps : List Str} {r : Str} (h : ∀ vs : List Value, ps.length <= vs.length -> bindArgs fd ⟨vs, []⟩ = (newTuple (vs.drop ps.length) >>= fun t => pure ((ps ++ [r]).zip (vs.take ps.length ++ [t])))) : xw6 g prog fd (ps ++ [r]) (zq1 ps.length) := by
 intro cx A V st s as vs hr I hb Q E hq
 unfold zq1 at hb hq
 induction e : Nat.ble ps.length as.length with
 | false => rw [e] at hb; exact q3q hb
 | true =>
  rw [e] at hb hq
  dsimp only at hb hq
  obtain ⟨h1, h2⟩ := k6q hb
  rw [h2] at hb hq
  have hle : ps.length <= vs.length := hr.length ▸ w5z e
  rw [h vs hle]
  have hb1 := x5q hb
  have hsz : (vs.drop ps.length).length <= sizeLine := Nat.le_trans (by rw [List.length_drop]; exact Nat.sub_le _ _) (k4q h1 hr)
  refine w0z (wpAny_newTuple (w2z ?_) hsz)
  induction h4 : Nat.blt st.H.n z5q with
  | false => unfold newM at hb1; rw [h4] at hb1; exact q3q hb1
  | true =>
   have e5 : newM (.tuple (as.drop ps.length)) st = .ok (.ref st.H.n) { st with H := st.H.push (.tuple (as.drop ps.length)) } := by unfold newM; rw [h4]
   have hk : ∀ b o, s.heap.get? b = some o -> (s.heap.push ({ cls := .type "tuple", data := .seq (vs.drop ps.length).toArray } : PySem.Obj)).get? b = some o := fun b o e => w6z _ e
   have Z := I.alloc s.toks (h' := s.heap.push ({ cls := .type "tuple", data := .seq (vs.drop ps.length).toArray } : PySem.Obj)) (a := s.heap.objs.size) (ao := .tuple (as.drop ps.length)) (z0q s) (Heap.get?_push_size _ rfl) hk
    ⟨vs.drop ps.length, 0, (hr.drop _).mono ⟨_, rfl⟩, rfl⟩ h4
   refine hq (as.take ps.length ++ [.ref st.H.n]) (vs.take ps.length ++ [.ref s.heap.objs.size]) _ _ _ (w1q e5) (reps.app ((hr.take _).mono ⟨[s.heap.objs.size], rfl⟩) (show reps g.ν (V ++ [s.heap.objs.size]) [.ref st.H.n] [.ref s.heap.objs.size] from ⟨⟨s.heap.objs.size, by rw [I.size]; simp, rfl⟩, trivial⟩)) ?_ Z.1 Z.2 hk
   simp [List.length_take, Nat.min_eq_left hle]
end
section
set_option maxRecDepth 1000000
noncomputable def noSt : Stmt := .Pass ⟨0, 0, 0, 0⟩
noncomputable def ql9 (i : Nat) : Stmt := (PySem.Challenge.pw_ik0059_01.main.body[i]?).getD noSt
noncomputable def qx4 (i j : Nat) : Stmt := match ql9 i with
 | .ClassDef _ _ _ b _ _ _ _ _ _ _ => (b[j]?).getD noSt
 | _ => noSt
noncomputable def sv (x : String) (t : Tok) : Value := .str (Str.ofString x) t
noncomputable def de (P : PySem.Params) (x : String) (t : Tok) (v : Value) : DictEntry := ⟨PyData.keyHash P (Str.ofString x), .str (Str.ofString x) t, v⟩
noncomputable def fO (n q : String) (s : Stmt) (d m : Value) (c : Addr) : Obj := match s with
 | .FunctionDef _ ps b _ _ _ sc _ _ _ => { cls := .type "function", data := .func { name := Str.ofString n, qualname := Str.ofString q, params := ps, body := .stmts b, scope := sc, globals := 3, closure := [], defaults := d, kwdefaults := .none, pyModule := m, code := .ref c } }
 | _ => { cls := .none, data := .plain }
noncomputable def cO (n q : String) (t : Tok) (l ac fl : Int) (nm : Addr) (b : Bool) (tx : Int) (tb : Addr) (x y z : Value) (u : Nat) : Obj := { cls := .type "code", data := .fields #[sv n t, sv q (t + 1), sv "/claim/cut.py" (t + 2), .int l 0, .int ac 0, .int 0 0, .int 0 0, .int fl 0, .ref nm, .bool b, .int tx 0, .ref tb, .none, x, y, z, .int u 0, .int l 0, sv "/claim/cut.py" (u + 1)] }
noncomputable def KF (P : PySem.Params) : Frag := [
 (0, ({ cls := .type "dict", data := .dict #[de P "__name__" 1 (sv "builtins" 160), de P "__doc__" 2 (.builtin "builtins.__doc__:str#opaque"), de P "__package__" 3 (.builtin "builtins.__package__:str#opaque"), de P "__loader__" 4 (.builtin "builtins.__loader__:shared#opaque"), de P "__spec__" 5 (.builtin "builtins.__spec__#opaque"), de P "__build_class__" 6 (.builtin "__build_class__"), de P "__import__" 7 (.builtin "__import__"), de P "abs" 8 (.builtin "abs"), de P "all" 9 (.builtin "all"), de P "any" 10 (.builtin "any"), de P "ascii" 11 (.builtin "ascii"), de P "bin" 12 (.builtin "bin"), de P "breakpoint" 13 (.builtin "breakpoint"), de P "callable" 14 (.builtin "callable"), de P "chr" 15 (.builtin "chr"), de P "compile" 16 (.builtin "compile"), de P "delattr" 17 (.builtin "delattr"), de P "dir" 18 (.builtin "dir"), de P "divmod" 19 (.builtin "divmod"), de P "eval" 20 (.builtin "eval"), de P "exec" 21 (.builtin "exec"), de P "format" 22 (.builtin "format"), de P "getattr" 23 (.builtin "getattr"), de P "globals" 24 (.builtin "globals"), de P "hasattr" 25 (.builtin "hasattr"), de P "hash" 26 (.builtin "hash"), de P "hex" 27 (.builtin "hex"), de P "id" 28 (.builtin "id"), de P "input" 29 (.builtin "input"), de P "isinstance" 30 (.builtin "isinstance"), de P "issubclass" 31 (.builtin "issubclass"), de P "iter" 32 (.builtin "iter"), de P "aiter" 33 (.builtin "aiter"), de P "len" 34 (.builtin "len"), de P "locals" 35 (.builtin "locals"), de P "max" 36 (.builtin "max"), de P "min" 37 (.builtin "min"), de P "next" 38 (.builtin "next"), de P "anext" 39 (.builtin "anext"), de P "oct" 40 (.builtin "oct"), de P "ord" 41 (.builtin "ord"), de P "pow" 42 (.builtin "pow"), de P "print" 43 (.builtin "print"), de P "repr" 44 (.builtin "repr"), de P "round" 45 (.builtin "round"), de P "setattr" 46 (.builtin "setattr"), de P "sorted" 47 (.builtin "sorted"), de P "sum" 48 (.builtin "sum"), de P "vars" 49 (.builtin "vars"), de P "None" 50 (.none), de P "Ellipsis" 51 (.ellipsis), de P "NotImplemented" 52 (.notImplemented), de P "False" 53 (.bool false), de P "True" 54 (.bool true), de P "bool" 55 (.type "bool"), de P "memoryview" 56 (.type "memoryview"), de P "bytearray" 57 (.type "bytearray"), de P "bytes" 58 (.type "bytes"), de P "classmethod" 59 (.type "classmethod"), de P "complex" 60 (.type "complex"), de P "dict" 61 (.type "dict"), de P "enumerate" 62 (.type "enumerate"), de P "filter" 63 (.type "filter"), de P "float" 64 (.type "float"), de P "frozenset" 65 (.type "frozenset"), de P "property" 66 (.type "property"), de P "int" 67 (.type "int"), de P "list" 68 (.type "list"), de P "map" 69 (.type "map"), de P "object" 70 (.type "object"), de P "range" 71 (.type "range"), de P "reversed" 72 (.type "reversed"), de P "set" 73 (.type "set"), de P "slice" 74 (.type "slice"), de P "staticmethod" 75 (.type "staticmethod"), de P "str" 76 (.type "str"), de P "super" 77 (.type "super"), de P "tuple" 78 (.type "tuple"), de P "type" 79 (.type "type"), de P "zip" 80 (.type "zip"), de P "__debug__" 81 (.bool true), de P "BaseException" 82 (.type "BaseException"), de P "BaseExceptionGroup" 83 (.type "BaseExceptionGroup"), de P "Exception" 84 (.type "Exception"), de P "GeneratorExit" 85 (.type "GeneratorExit"), de P "KeyboardInterrupt" 86 (.type "KeyboardInterrupt"), de P "SystemExit" 87 (.type "SystemExit"), de P "ArithmeticError" 88 (.type "ArithmeticError"), de P "AssertionError" 89 (.type "AssertionError"), de P "AttributeError" 90 (.type "AttributeError"), de P "BufferError" 91 (.type "BufferError"), de P "EOFError" 92 (.type "EOFError"), de P "ImportError" 93 (.type "ImportError"), de P "LookupError" 94 (.type "LookupError"), de P "MemoryError" 95 (.type "MemoryError"), de P "NameError" 96 (.type "NameError"), de P "OSError" 97 (.type "OSError"), de P "ReferenceError" 98 (.type "ReferenceError"), de P "RuntimeError" 99 (.type "RuntimeError"), de P "StopAsyncIteration" 100 (.type "StopAsyncIteration"), de P "StopIteration" 101 (.type "StopIteration"), de P "SyntaxError" 102 (.type "SyntaxError"), de P "SystemError" 103 (.type "SystemError"), de P "TypeError" 104 (.type "TypeError"), de P "ValueError" 105 (.type "ValueError"), de P "Warning" 106 (.type "Warning"), de P "FloatingPointError" 107 (.type "FloatingPointError"), de P "OverflowError" 108 (.type "OverflowError"), de P "ZeroDivisionError" 109 (.type "ZeroDivisionError"), de P "BytesWarning" 110 (.type "BytesWarning"), de P "DeprecationWarning" 111 (.type "DeprecationWarning"), de P "EncodingWarning" 112 (.type "EncodingWarning"), de P "FutureWarning" 113 (.type "FutureWarning"), de P "ImportWarning" 114 (.type "ImportWarning"), de P "PendingDeprecationWarning" 115 (.type "PendingDeprecationWarning"), de P "ResourceWarning" 116 (.type "ResourceWarning"), de P "RuntimeWarning" 117 (.type "RuntimeWarning"), de P "SyntaxWarning" 118 (.type "SyntaxWarning"), de P "UnicodeWarning" 119 (.type "UnicodeWarning"), de P "UserWarning" 120 (.type "UserWarning"), de P "BlockingIOError" 121 (.type "BlockingIOError"), de P "ChildProcessError" 122 (.type "ChildProcessError"), de P "ConnectionError" 123 (.type "ConnectionError"), de P "FileExistsError" 124 (.type "FileExistsError"), de P "FileNotFoundError" 125 (.type "FileNotFoundError"), de P "InterruptedError" 126 (.type "InterruptedError"), de P "IsADirectoryError" 127 (.type "IsADirectoryError"), de P "NotADirectoryError" 128 (.type "NotADirectoryError"), de P "PermissionError" 129 (.type "PermissionError"), de P "ProcessLookupError" 130 (.type "ProcessLookupError"), de P "TimeoutError" 131 (.type "TimeoutError"), de P "IndentationError" 132 (.type "IndentationError"), de P "_IncompleteInputError" 133 (.type "_IncompleteInputError"), de P "IndexError" 134 (.type "IndexError"), de P "KeyError" 135 (.type "KeyError"), de P "ModuleNotFoundError" 136 (.type "ModuleNotFoundError"), de P "NotImplementedError" 137 (.type "NotImplementedError"), de P "PythonFinalizationError" 138 (.type "PythonFinalizationError"), de P "RecursionError" 139 (.type "RecursionError"), de P "UnboundLocalError" 140 (.type "UnboundLocalError"), de P "UnicodeError" 141 (.type "UnicodeError"), de P "BrokenPipeError" 142 (.type "BrokenPipeError"), de P "ConnectionAbortedError" 143 (.type "ConnectionAbortedError"), de P "ConnectionRefusedError" 144 (.type "ConnectionRefusedError"), de P "ConnectionResetError" 145 (.type "ConnectionResetError"), de P "TabError" 146 (.type "TabError"), de P "UnicodeDecodeError" 147 (.type "UnicodeDecodeError"), de P "UnicodeEncodeError" 148 (.type "UnicodeEncodeError"), de P "UnicodeTranslateError" 149 (.type "UnicodeTranslateError"), de P "ExceptionGroup" 150 (.type "ExceptionGroup"), de P "EnvironmentError" 151 (.type "OSError"), de P "IOError" 152 (.type "OSError"), de P "open" 153 (.builtin "open"), de P "quit" 154 (.builtin "builtins.quit#opaque"), de P "exit" 155 (.builtin "builtins.exit#opaque"), de P "copyright" 156 (.builtin "builtins.copyright#opaque"), de P "credits" 157 (.builtin "builtins.credits#opaque"), de P "license" 158 (.builtin "builtins.license#opaque"), de P "help" 159 (.builtin "builtins.help#opaque")] 159 })),
 (1, ({ cls := .type "dict", data := .dict #[de P "builtins" 162 (.ref 4), de P "__main__" 163 (.ref 5)] 2 })),
 (2, ({ cls := .none, data := .dict #[] })),
 (3, ({ cls := .type "dict", data := .dict #[de P "__name__" 165 (sv "law_ik0059_01" 419), de P "__doc__" 166 (.none), de P "__package__" 167 (.none), de P "__loader__" 168 (.builtin "__main__.__loader__#opaque"), de P "__spec__" 169 (.none), de P "__annotations__" 170 (.ref 6), de P "__builtins__" 171 (.ref 4), de P "__file__" 173 (sv "/claim/cut.py" 172), de P "__cached__" 174 (.none), de P "_wall" 193 (.ref 21), de P "read_uint1" 203 (.ref 28), de P "read_string1" 212 (.ref 35), de P "cmp_to_key" 223 (.ref 42), de P "_initial_missing" 224 (.ref 43), de P "reduce" 236 (.ref 51), de P "_NODE_OUT" 241 (.int (-1) 240), de P "_NODE_DONE" 244 (.int (-2) 243), de P "_NodeInfo" 281 (.ref 70), de P "CycleError" 299 (.ref 85), de P "TopologicalSorter" 418 (.ref 167), de P "_law_cells" 426 (.ref 176), de P "_law_name" 432 (.ref 181), de P "_law_octets" 438 (.ref 186), de P "_law_taken" 447 (.ref 193), de P "_law_stream" 456 (.ref 200), de P "_law_read" 462 (.ref 205), de P "_law_worths" 468 (.ref 210), de P "_law_hand" 474 (.ref 215), de P "_law_right" 484 (.ref 222), de P "law" 490 (.ref 227)] 30 })),
 (4, ({ cls := .type "module", dict := some 0 })),
 (5, ({ cls := .type "module", dict := some 3 })),
 (6, ({ cls := .type "dict", data := .dict #[] })),
 (9, cO "<module>" "<module>" 176 1 0 0 7 false 175 8 .none .none .none 179),
 (13, cO "<module>" "<module>" 182 1 0 0 11 false 181 12 .none .none .none 185),
 (20, cO "_wall" "_wall" 187 1 1 3 15 true 181 16 (.ref 17) (.ref 18) (.ref 19) 191),
 (21, fO "_wall" "_wall" (ql9 0) .none (sv "__main__" 164) 20),
 (27, cO "read_uint1" "read_uint1" 196 5 1 3 22 true 181 23 (.ref 24) (.ref 25) (.ref 26) 201),
 (28, fO "read_uint1" "read_uint1" (ql9 2) .none (sv "cpy313.pickletools" 194) 27),
 (34, cO "read_string1" "read_string1" 204 10 1 3 29 true 181 30 (.ref 31) (.ref 32) (.ref 33) 210),
 (35, fO "read_string1" "read_string1" (ql9 3) .none (sv "cpy313.pickletools" 194) 34),
 (37, ({ cls := .none, data := .fields #[] })),
 (41, cO "cmp_to_key" "cmp_to_key" 215 18 1 3 36 true 181 37 (.ref 38) (.ref 39) (.ref 40) 221),
 (42, fO "cmp_to_key" "cmp_to_key" (ql9 5) .none (sv "cpy313.functools" 213) 41),
 (43, ({ cls := .type "object" })),
 (44, ({ cls := .type "tuple", data := .seq #[.ref 43] })),
 (50, cO "reduce" "reduce" 225 44 3 3 45 true 181 46 (.ref 47) (.ref 48) (.ref 49) 234),
 (51, fO "reduce" "reduce" (ql9 7) (.ref 44) (sv "cpy313.functools" 213) 50),
 (59, ({ cls := .type "tuple", data := .seq #[sv "node" 257, sv "npredecessors" 258, sv "successors" 259] })),
 (65, cO "__init__" "_NodeInfo.__init__" 261 62 2 3 60 true 181 61 (.ref 62) (.ref 63) (.ref 64) 266),
 (66, fO "__init__" "_NodeInfo.__init__" (qx4 11 1) .none (sv "cpy313.graphlib" 237) 65),
 (69, ({ cls := .type "dict", data := .dict #[de P "__module__" 252 (sv "cpy313.graphlib" 237), de P "__firstlineno__" 256 (.int 59 255), de P "__slots__" 260 (.ref 59), de P "__init__" 268 (.ref 66), de P "__static_attributes__" 272 (.ref 67), de P "node" 274 (.ref 71), de P "npredecessors" 276 (.ref 72), de P "successors" 278 (.ref 73), de P "__doc__" 279 (.none)] 5 })),
 (70, ({ cls := .type "type", data := .cls { name := Str.ofString "_NodeInfo", bases := [.type "object"], mro := [.ref 70, .type "object"], ns := 69, qualname := Str.ofString "_NodeInfo", hasDict := false, slotNames := [Str.ofString "node", Str.ofString "npredecessors", Str.ofString "successors"] }, slots := #[none, none, some (sv "_NodeInfo" 245), some (sv "_NodeInfo" 253), some (.builtin "object.__new__"), some (.bool false)] })),
 (71, ({ cls := .type "member_descriptor", data := .fields #[sv "node" 273, .ref 70, .builtin "proto.slot", .builtin "proto.slot#set", .int 2 0] })),
 (72, ({ cls := .type "member_descriptor", data := .fields #[sv "npredecessors" 275, .ref 70, .builtin "proto.slot", .builtin "proto.slot#set", .int 1 0] })),
 (73, ({ cls := .type "member_descriptor", data := .fields #[sv "successors" 277, .ref 70, .builtin "proto.slot", .builtin "proto.slot#set", .int 0 0] })),
 (84, ({ cls := .type "dict", data := .dict #[de P "__module__" 289 (sv "cpy313.graphlib" 237), de P "__firstlineno__" 293 (.int 66 292), de P "__static_attributes__" 294 (.ref 83), de P "__weakref__" 296 (.ref 86), de P "__doc__" 297 (.none)] 3 })),
 (85, ({ cls := .type "type", data := .cls { name := Str.ofString "CycleError", bases := [.type "ValueError"], mro := [.ref 85, .type "ValueError", .type "Exception", .type "BaseException", .type "object"], ns := 84, qualname := Str.ofString "CycleError" }, slots := #[some (.ref 76), none, some (sv "CycleError" 282), some (sv "CycleError" 290), some (.builtin "ValueError.__new__"), some (.bool true)] })),
 (86, ({ cls := .type "getset_descriptor", data := .fields #[sv "__weakref__" 295, .ref 85, .builtin "ExceptionGroup.__weakref__", .none] })),
 (96, ({ cls := .type "tuple", data := .seq #[.none] })),
 (102, cO "__init__" "TopologicalSorter.__init__" 312 70 2 3 97 true 181 98 (.ref 99) (.ref 100) (.ref 101) 319),
 (103, fO "__init__" "TopologicalSorter.__init__" (qx4 13 0) (.ref 96) (sv "cpy313.graphlib" 237) 102),
 (109, cO "_get_nodeinfo" "TopologicalSorter._get_nodeinfo" 322 79 2 3 104 true 181 105 (.ref 106) (.ref 107) (.ref 108) 328),
 (110, fO "_get_nodeinfo" "TopologicalSorter._get_nodeinfo" (qx4 13 1) .none (sv "cpy313.graphlib" 237) 109),
 (116, cO "add" "TopologicalSorter.add" 331 84 2 7 111 true 181 112 (.ref 113) (.ref 114) (.ref 115) 340),
 (117, fO "add" "TopologicalSorter.add" (qx4 13 2) .none (sv "cpy313.graphlib" 237) 116),
 (121, cO "prepare" "TopologicalSorter.prepare" 343 93 1 3 118 true 181 119 .none .none (.ref 120) 346),
 (122, fO "prepare" "TopologicalSorter.prepare" (qx4 13 3) .none (sv "cpy313.graphlib" 237) 121),
 (128, cO "get_ready" "TopologicalSorter.get_ready" 349 101 1 3 123 true 181 124 (.ref 125) (.ref 126) (.ref 127) 356),
 (129, fO "get_ready" "TopologicalSorter.get_ready" (qx4 13 4) .none (sv "cpy313.graphlib" 237) 128),
 (135, cO "is_active" "TopologicalSorter.is_active" 359 112 1 3 130 true 181 131 (.ref 132) (.ref 133) (.ref 134) 363),
 (136, fO "is_active" "TopologicalSorter.is_active" (qx4 13 5) .none (sv "cpy313.graphlib" 237) 135),
 (142, cO "__bool__" "TopologicalSorter.__bool__" 366 117 1 3 137 true 181 138 (.ref 139) (.ref 140) (.ref 141) 370),
 (143, fO "__bool__" "TopologicalSorter.__bool__" (qx4 13 6) .none (sv "cpy313.graphlib" 237) 142),
 (149, cO "done" "TopologicalSorter.done" 373 120 1 7 144 true 181 145 (.ref 146) (.ref 147) (.ref 148) 384),
 (150, fO "done" "TopologicalSorter.done" (qx4 13 7) .none (sv "cpy313.graphlib" 237) 149),
 (156, cO "_find_cycle" "TopologicalSorter._find_cycle" 387 143 1 3 151 true 181 152 (.ref 153) (.ref 154) (.ref 155) 397),
 (157, fO "_find_cycle" "TopologicalSorter._find_cycle" (qx4 13 8) .none (sv "cpy313.graphlib" 237) 156),
 (163, cO "static_order" "TopologicalSorter.static_order" 400 172 1 3 158 true 181 159 (.ref 160) (.ref 161) (.ref 162) 404),
 (164, fO "static_order" "TopologicalSorter.static_order" (qx4 13 9) .none (sv "cpy313.graphlib" 237) 163),
 (166, ({ cls := .type "dict", data := .dict #[de P "__module__" 307 (sv "cpy313.graphlib" 237), de P "__firstlineno__" 311 (.int 68 310), de P "__init__" 321 (.ref 103), de P "_get_nodeinfo" 330 (.ref 110), de P "add" 342 (.ref 117), de P "prepare" 348 (.ref 122), de P "get_ready" 358 (.ref 129), de P "is_active" 365 (.ref 136), de P "__bool__" 372 (.ref 143), de P "done" 386 (.ref 150), de P "_find_cycle" 399 (.ref 157), de P "static_order" 406 (.ref 164), de P "__static_attributes__" 411 (.ref 165), de P "__dict__" 413 (.ref 168), de P "__weakref__" 415 (.ref 169), de P "__doc__" 416 (.none)] 4 })),
 (167, ({ cls := .type "type", data := .cls { name := Str.ofString "TopologicalSorter", bases := [.type "object"], mro := [.ref 167, .type "object"], ns := 166, qualname := Str.ofString "TopologicalSorter" }, slots := #[none, none, some (sv "TopologicalSorter" 300), some (sv "TopologicalSorter" 308), some (.builtin "object.__new__"), some (.bool true)] })),
 (168, ({ cls := .type "getset_descriptor", data := .fields #[sv "__dict__" 412, .ref 167, .builtin "function.__dict__", .builtin "function.__dict__#set"] })),
 (169, ({ cls := .type "getset_descriptor", data := .fields #[sv "__weakref__" 414, .ref 167, .builtin "ExceptionGroup.__weakref__", .none] })),
 (175, cO "_law_cells" "_law_cells" 421 175 1 3 172 true 181 173 .none .none (.ref 174) 424),
 (176, fO "_law_cells" "_law_cells" (ql9 15) .none (sv "law_ik0059_01" 419) 175),
 (180, cO "_law_name" "_law_name" 427 184 1 3 177 true 181 178 .none .none (.ref 179) 430),
 (181, fO "_law_name" "_law_name" (ql9 16) .none (sv "law_ik0059_01" 419) 180),
 (185, cO "_law_octets" "_law_octets" 433 186 1 3 182 true 181 183 .none .none (.ref 184) 436),
 (186, fO "_law_octets" "_law_octets" (ql9 17) .none (sv "law_ik0059_01" 419) 185),
 (192, cO "_law_taken" "_law_taken" 439 190 2 3 187 true 181 188 (.ref 189) (.ref 190) (.ref 191) 445),
 (193, fO "_law_taken" "_law_taken" (ql9 18) .none (sv "law_ik0059_01" 419) 192),
 (195, ({ cls := .none, data := .fields #[] })),
 (199, cO "_law_stream" "_law_stream" 448 194 1 3 194 true 181 195 (.ref 196) (.ref 197) (.ref 198) 454),
 (200, fO "_law_stream" "_law_stream" (ql9 19) .none (sv "law_ik0059_01" 419) 199),
 (204, cO "_law_read" "_law_read" 457 198 1 3 201 true 181 202 .none .none (.ref 203) 460),
 (205, fO "_law_read" "_law_read" (ql9 20) .none (sv "law_ik0059_01" 419) 204),
 (207, ({ cls := .none, data := .fields #[] })),
 (209, cO "_law_worths" "_law_worths" 463 206 1 3 206 true 181 207 .none .none (.ref 208) 466),
 (210, fO "_law_worths" "_law_worths" (ql9 21) .none (sv "law_ik0059_01" 419) 209),
 (214, cO "_law_hand" "_law_hand" 469 220 1 3 211 true 181 212 .none .none (.ref 213) 472),
 (215, fO "_law_hand" "_law_hand" (ql9 22) .none (sv "law_ik0059_01" 419) 214),
 (217, ({ cls := .none, data := .fields #[] })),
 (221, cO "_law_right" "_law_right" 475 229 1 3 216 true 181 217 (.ref 218) (.ref 219) (.ref 220) 482),
 (222, fO "_law_right" "_law_right" (ql9 23) .none (sv "law_ik0059_01" 419) 221),
 (226, cO "law" "law" 485 233 1 3 223 true 181 224 .none .none (.ref 225) 488),
 (227, fO "law" "law" (ql9 24) .none (sv "law_ik0059_01" 419) 226)]
noncomputable def KFa : List Addr := [0, 1, 2, 3, 4, 5, 6, 9, 13, 20, 21, 27, 28, 34, 35, 37, 41, 42, 43, 44, 50, 51, 59, 65, 66, 69, 70, 71, 72, 73, 84, 85, 86, 96, 102, 103, 109, 110, 116, 117, 121, 122, 128, 129, 135, 136, 142, 143, 149, 150, 156, 157, 163, 164, 166, 167, 168, 169, 175, 176, 180, 181, 185, 186, 192, 193, 195, 199, 200, 204, 205, 207, 209, 210, 214, 215, 217, 221, 222, 226, 227]
theorem jn0 (P : PySem.Params) : KFa = (KF P).map (·.1) := by kernel_rfl
noncomputable def myView : Program := view PySem.Challenge.pw_ik0059_01 [0, 2, 3, 5, 6, 9, 10, 11, 12, 13, 15, 16, 17, 18, 19, 20, 21, 22, 23, 24]
noncomputable def myLoose : List Str := ["_initial_missing", "reduce", "_NodeInfo"]
noncomputable def myHook : Hook := kHook KF KFa jn0
noncomputable def myXt (s : Shared) : Bool := xlAt myView [] s && recOk (RowW.records PySem.Challenge.rw_ik0059_01.row.toRowW) s
theorem left_ok : LeftO PySem.Challenge.rw_ik0059_01.row.toRowW.prog myView myLoose myXt (Hook.obs myHook) (Hook.val myHook) 3200 := by
 intro w
 kernel_rfl
end
noncomputable def jh6 (a : Nat) : Bool := !(Nat.beq a 207 || Nat.beq a 37 || Nat.beq a 217 || Nat.beq a 195)
noncomputable def KG (P : PySem.Params) : Frag := (KF P).filter fun p => jh6 p.1
noncomputable def qt5 (P : PySem.Params) (a : Addr) : List Stmt := match (KG P).lookup a with
 | some ⟨_, _, .func fd, _⟩ => match fd.body with
  | .stmts b => b
  | _ => []
 | _ => []
noncomputable def ze7 (q : Str) (clos : List Str) : Expr -> FnInfo
 | .Lambda params body scope _ => ⟨"<lambda>", q ++ "<lambda>", params, body, scope, clos⟩
 | e => ⟨"", "", ⟨[], [], none, [], [], none, []⟩, e, ⟨.function, [], false, false, []⟩, []⟩
noncomputable def noE : Expr := .Constant .none 0 ⟨0, 0, 0, 0⟩
noncomputable def jk4 (P : PySem.Params) : FnInfo := ze7 "_law_stream.<locals>." [] (match qt5 P 200 with
 | .Assign _ (.Tuple [_, e] _ _) _ :: _ => e
 | _ => noE)
noncomputable def jk3 (P : PySem.Params) : FnInfo := ze7 "_law_stream.<locals>." ["rest"] (match qt5 P 200 with
 | _ :: .Assign _ e _ :: _ => e
 | _ => noE)
noncomputable def jk2 (P : PySem.Params) : FnInfo := ze7 "_law_worths.<locals>." ["worths"] (match qt5 P 210 with
 | [_, _, _, .While _ [_, _, .For _ _ [_, .Assign _ (.IfExp _ _ (.Call _ (e :: _) _ _) _) _] _ _] _ _, _] => e
 | _ => noE)
noncomputable def qb4 (P : PySem.Params) : FnInfo := ze7 "_law_right.<locals>." [] (match qt5 P 222 with
 | [_, .Assign _ (.Call _ (e :: _) _ _) _, _] => e
 | _ => noE)
noncomputable def qb3 (P : PySem.Params) : FnInfo := ze7 "_law_right.<locals>." [] (match qt5 P 222 with
 | [_, _, .Return (some (.BoolOp _ [_, .Compare _ _ [.Call _ _ [kw] _] _] _)) _] => kw.value
 | _ => noE)
noncomputable def jk1 (P : PySem.Params) : List FnInfo := [jk4 P, jk3 P, jk2 P, qb4 P, qb3 P]
structure Sit (g : Gl) : Prop where
 G : GOk g
 X : (KG g.w.params).In g.U
 sm : ∃ o, g.U.get? sysModules = some o
 T : ∃ p loose, TopRead p loose g.mg g.mb g.U
 B : BmOk g
 fns : g.fns = jk1 g.w.params
 tabs : g.tabs = [207, 217, 195]
 c0 : CodeHd g.U 209 207
 c2 : CodeHd g.U 221 217
 c3 : CodeHd g.U 199 195
noncomputable def zs0 (P : PySem.Params) : Array DictEntry := match (KG P).lookup 3 with
 | some ⟨_, _, .dict es _, _⟩ => es
 | _ => #[]
theorem Sit.mg {g : Gl} (S : Sit g) {x : Str} {v : Option Value} (hx : nsFind (zs0 g.w.params) x = v) : g.mg x = v := by
 obtain ⟨o, es, ep, h1, h2, h3, h4⟩ := S.G.ng
 have h5 : (KG g.w.params).lookup 3 = some ⟨.type "dict", none, .dict (zs0 g.w.params) 30, #[]⟩ := rfl
 have h6 := S.X _ _ h5
 rw [show (3 : Addr) = mainGlobals from rfl, h1] at h6
 obtain rfl := w4z h6
 injection h2 with h2
 rw [<- h4 x, <- h2, hx]
section
variable {g : Gl} {prog : Program} {cx : Cx} {n : Nat}
theorem j5q (S : Sit g) {c : Addr} {oc : Obj} {vs : Array Value} {q : Str} {t : Tok} {cv : Value} (hl : (KG g.w.params).lookup c = some oc) (hc : cv = .ref c) (hd : oc.data = .fields vs) (h1 : vs[1]? = some (.str q t)) : g.U.CodeRec cv q := ⟨c, oc, vs, t, hc, S.X _ _ hl, hd, h1⟩
theorem uniq {l : List Str} {i : Nat} {x : Str} (hn : l.Nodup) (hi : l[i]? = some x) : ∀ (j : Nat), l[j]? = some x -> j = i := by
 intro j hj
 obtain ⟨p1, e1⟩ := List.getElem?_eq_some_iff.mp hi
 obtain ⟨p2, e2⟩ := List.getElem?_eq_some_iff.mp hj
 exact (List.getElem_inj hn).mp (e2.trans e1.symm)
theorem w2q {x : Str} {p pos : Pos} {es : List Expr} {fs : List (AM AV)} {u : Value} {d : Nat} {F : List AV -> AM AV} (hf : FnOk g prog d u F) (hk : qf2 g prog u) (hn : d <= n) (hq : cx.q = true)
 (hx : RefE g prog cx n (.Name x p) (AM.ret (.stat u))) (hs : qc0 g prog cx n es fs) : RefE g prog cx n (.Call (.Name x p) es [] pos) ((q8q fs).bind F) :=
 xi4 hx hk hs (hf cx n hn hq)
theorem x9q {fd : FuncData} {p : Str} {vs : List Value} {s : Shared} (hv : vs.length = 1) (h : ∀ a, bindArgs fd ⟨[a], []⟩ = pure [(p, a)]) : BindsTo s fd ⟨vs, []⟩ ([p].zip vs) := by
 obtain ⟨a, rfl⟩ := len1 hv
 exact .of_eq (h a)
theorem qe6 {fd : FuncData} {p q : Str} {vs : List Value} {s : Shared} (hv : vs.length = 2) (h : ∀ a b, bindArgs fd ⟨[a, b], []⟩ = pure [(p, a), (q, b)]) : BindsTo s fd ⟨vs, []⟩ ([p, q].zip vs) := by
 obtain ⟨a, b, rfl⟩ := len2 hv
 exact .of_eq (h a b)
end
section
variable {g : Gl} {prog : Program}
theorem qd0 (S : Sit g) : g.mg "len" = none := S.mg (by rfl)
theorem ji7 (S : Sit g) : g.mg "ord" = none := S.mg (by rfl)
theorem zr5 (S : Sit g) : g.mg "sum" = none := S.mg (by rfl)
theorem qp1 (S : Sit g) : g.mg "range" = none := S.mg (by rfl)
theorem qt0 (S : Sit g) : g.mg "enumerate" = none := S.mg (by rfl)
theorem xd7 (S : Sit g) : g.mg "type" = none := S.mg (by rfl)
theorem xt4 (S : Sit g) : g.mg "int" = none := S.mg (by rfl)
theorem zl7 (S : Sit g) : g.mg "bytes" = none := S.mg (by rfl)
theorem zl6 (S : Sit g) : g.mg "tuple" = none := S.mg (by rfl)
theorem zu5 (S : Sit g) : g.mg "bool" = none := S.mg (by rfl)
theorem ji6 (S : Sit g) : g.mg "set" = none := S.mg (by rfl)
theorem xe0 (S : Sit g) : g.mg "_law_cells" = some (.ref 176) := S.mg (by rfl)
theorem qj9 (S : Sit g) : g.mg "_law_name" = some (.ref 181) := S.mg (by rfl)
theorem qm5 (S : Sit g) : g.mg "_law_octets" = some (.ref 186) := S.mg (by rfl)
theorem xd8 (S : Sit g) : g.mg "_law_taken" = some (.ref 193) := S.mg (by rfl)
theorem qz3 (S : Sit g) : g.mg "_law_stream" = some (.ref 200) := S.mg (by rfl)
theorem qt1 (S : Sit g) : g.mg "_law_read" = some (.ref 205) := S.mg (by rfl)
theorem qz2 (S : Sit g) : g.mg "_law_worths" = some (.ref 210) := S.mg (by rfl)
theorem xj8 (S : Sit g) : g.mg "_law_hand" = some (.ref 215) := S.mg (by rfl)
theorem xd9 (S : Sit g) : g.mg "_law_right" = some (.ref 222) := S.mg (by rfl)
theorem qi2 (S : Sit g) : g.mg "read_uint1" = some (.ref 28) := S.mg (by rfl)
theorem qj8 (S : Sit g) : g.mg "read_string1" = some (.ref 35) := S.mg (by rfl)
theorem zd7 (S : Sit g) : g.mg "reduce" = some (.ref 51) := S.mg (by rfl)
theorem zd9 (S : Sit g) : g.mg "iter" = none := S.mg (by rfl)
theorem xj7 (S : Sit g) : g.mg "sorted" = none := S.mg (by rfl)
theorem y0q (S : Sit g) : g.mg "ValueError" = none := S.mg (by rfl)
theorem qt9 (S : Sit g) : g.mg "StopIteration" = none := S.mg (by rfl)
theorem zd8 (S : Sit g) : g.mg "object" = none := S.mg (by rfl)
theorem qn7 (S : Sit g) : g.mg "_initial_missing" = some (.ref 43) := S.mg (by rfl)
theorem qp3 (S : Sit g) : g.mg "CycleError" = some (.ref 85) := S.mg (by rfl)
theorem qm0 (S : Sit g) : g.mg "TopologicalSorter" = some (.ref 167) := S.mg (by rfl)
theorem xj9 (S : Sit g) : g.mg "_NodeInfo" = some (.ref 70) := S.mg (by rfl)
theorem qt2 (S : Sit g) : ∃ t, g.mg "_NODE_OUT" = some (.int (-1) t) := ⟨_, S.mg (by rfl)⟩
theorem qp2 (S : Sit g) : ∃ t, g.mg "_NODE_DONE" = some (.int (-2) t) := ⟨_, S.mg (by rfl)⟩
theorem tab0 (S : Sit g) : g.tabs[0]? = some 207 := by rw [S.tabs]; rfl
theorem tab1 (S : Sit g) : g.tabs[1]? = some 217 := by rw [S.tabs]; rfl
theorem tab2 (S : Sit g) : g.tabs[2]? = some 195 := by rw [S.tabs]; rfl
theorem fn0 (S : Sit g) : g.fns[0]? = some (jk4 g.w.params) := by rw [S.fns]; rfl
theorem fn1 (S : Sit g) : g.fns[1]? = some (jk3 g.w.params) := by rw [S.fns]; rfl
theorem fn2 (S : Sit g) : g.fns[2]? = some (jk2 g.w.params) := by rw [S.fns]; rfl
theorem fn3 (S : Sit g) : g.fns[3]? = some (qb4 g.w.params) := by rw [S.fns]; rfl
theorem fn4 (S : Sit g) : g.fns[4]? = some (qb3 g.w.params) := by rw [S.fns]; rfl
end
section
variable {g : Gl} {P : PySem.Params}
noncomputable abbrev KK (P : PySem.Params) : Frag := KG P
theorem w9q : InstGet (KK P) 167 "_node2info" := ⟨by rfl, by rfl, by rfl⟩
theorem xe8 : InstSet (KK P) 167 "_node2info" := ⟨by rfl, by rfl, by rfl, by rfl⟩
theorem x8q : InstGet (KK P) 167 "_ready_nodes" := ⟨by rfl, by rfl, by rfl⟩
theorem qk1 : InstSet (KK P) 167 "_ready_nodes" := ⟨by rfl, by rfl, by rfl, by rfl⟩
theorem qm8 : InstGet (KK P) 167 "_npassedout" := ⟨by rfl, by rfl, by rfl⟩
theorem qm7 : InstSet (KK P) 167 "_npassedout" := ⟨by rfl, by rfl, by rfl, by rfl⟩
theorem qp8 : InstGet (KK P) 167 "_nfinished" := ⟨by rfl, by rfl, by rfl⟩
theorem qp7 : InstSet (KK P) 167 "_nfinished" := ⟨by rfl, by rfl, by rfl, by rfl⟩
theorem qj2 : InstMeth (KK P) 167 "_get_nodeinfo" 110 := ⟨by rfl, by rfl, by rfl⟩
theorem qj1 : keepIn (KK P) (.ref 110) = true := by rfl
theorem xy2 : InstMeth (KK P) 167 "prepare" 122 := ⟨by rfl, by rfl, by rfl⟩
theorem xx6 : keepIn (KK P) (.ref 122) = true := by rfl
theorem xk8 : InstMeth (KK P) 167 "get_ready" 129 := ⟨by rfl, by rfl, by rfl⟩
theorem xk5 : keepIn (KK P) (.ref 129) = true := by rfl
theorem xk7 : InstMeth (KK P) 167 "is_active" 136 := ⟨by rfl, by rfl, by rfl⟩
theorem xk4 : keepIn (KK P) (.ref 136) = true := by rfl
theorem qz7 : InstMeth (KK P) 167 "_find_cycle" 157 := ⟨by rfl, by rfl, by rfl⟩
theorem qz5 : keepIn (KK P) (.ref 157) = true := by rfl
theorem jl4 : ClsMake (KK P) 167 103 := ⟨by rfl, by rfl, by rfl⟩
theorem je9 : ClsMake (KK P) 70 66 := ⟨by rfl, by rfl, by rfl⟩
theorem jj2 : keepIn (KK P) (.ref 167) = true := by rfl
theorem zv3 : keepIn (KK P) (.ref 70) = true := by rfl
theorem zu2 : NodeGet (KK P) 70 "node" 71 0 := ⟨by rfl, by rfl, by rfl, by rfl, by rfl, by rfl⟩
theorem zu1 : NodeSet (KK P) 70 "node" 71 0 := ⟨by rfl, by rfl, by rfl, by rfl, by rfl⟩
theorem k8q : NodeGet (KK P) 70 "npredecessors" 72 1 := ⟨by rfl, by rfl, by rfl, by rfl, by rfl, by rfl⟩
theorem k7q : NodeSet (KK P) 70 "npredecessors" 72 1 := ⟨by rfl, by rfl, by rfl, by rfl, by rfl⟩
theorem qh9 : NodeGet (KK P) 70 "successors" 73 2 := ⟨by rfl, by rfl, by rfl, by rfl, by rfl, by rfl⟩
theorem xd3 : NodeSet (KK P) 70 "successors" 73 2 := ⟨by rfl, by rfl, by rfl, by rfl, by rfl⟩
theorem xj5 (S : Sit g) : OwnCls "CycleError" 85 [.type "ValueError", .type "Exception", .type "BaseException", .type "object"] "ValueError.__new__" g.mg g.U := by
 obtain ⟨p, loose, T⟩ := S.T
 exact own_of_in S.X T (by rfl) (by kernel_rfl)
end
noncomputable def qz6 (P : PySem.Params) : List Stmt := match qt5 P 42 with
 | .ClassDef _ _ _ body _ _ _ _ _ _ _ :: _ => body
 | _ => []
noncomputable def zg9 : Stmt -> Arguments × List Stmt × Scope
 | .FunctionDef _ a b _ _ _ sc _ _ _ => (a, b, sc)
 | _ => (⟨[], [], none, [], [], none, []⟩, [], ⟨.function, [], false, false, []⟩)
noncomputable def kDef (P : PySem.Params) (i : Nat) : Arguments × List Stmt × Scope := match (qz6 P)[i]? with
 | some s => zg9 s
 | none => (⟨[], [], none, [], [], none, []⟩, [], ⟨.function, [], false, false, []⟩)
noncomputable def zf0 (P : PySem.Params) (c : Addr) : Obj := ⟨.type "function", none, .func ⟨"__init__", "cmp_to_key.<locals>.K.__init__", (kDef P 2).1, .stmts (kDef P 2).2.1, (kDef P 2).2.2, 3, [], .none, .none, .none, .str "law_ik0059_01" 419, none, .ref c, .none, 0⟩, #[]⟩
noncomputable def kLt (P : PySem.Params) (cell c : Addr) (t : Value) : Obj := ⟨.type "function", none, .func ⟨"__lt__", "cmp_to_key.<locals>.K.__lt__", (kDef P 3).1, .stmts (kDef P 3).2.1, (kDef P 3).2.2, 3, [("mycmp", cell)], .none, .none, .none, .str "law_ik0059_01" 419, none, .ref c, t, 0⟩, #[]⟩
noncomputable def kCls (C N bt : Addr) (t1 t2 : Tok) (x5 : Option Value) : Obj := ⟨.type "type", none, .cls ⟨"K", [.type "object"], [.ref C, .type "object"], N, "cmp_to_key.<locals>.K", false, ["obj"], [], false, none, false⟩, #[some (.ref bt), none, some (.str "K" t1), some (.str "cmp_to_key.<locals>.K" t2), some (.builtin "object.__new__"), x5]⟩
noncomputable def ents (f : Nat -> Int × Tok) : Nat -> List (Str × Value) -> List DictEntry
 | _, [] => []
 | i, (k, v) :: r => ⟨(f i).1, .str k (f i).2, v⟩ :: ents f (i + 1) r
noncomputable def nsO (f : Nat -> Int × Tok) (l : List (Str × Value)) (n : Nat) : Obj := ⟨.type "dict", none, .dict (ents f 0 l).toArray n, #[]⟩
theorem xv3 {f : Nat -> Int × Tok} {l : List (Str × Value)} : ∀ {i : Nat} {e : DictEntry}, e ∈ ents f i l -> ∃ x t, e.key = .str x t := by
 induction l with
 | nil => exact fun h => nomatch h
 | cons p l ih =>
  intro i e h
  cases h with
  | head => exact ⟨_, _, rfl⟩
  | tail _ m => exact ih m
noncomputable def kL (v0 v1 v2 v10 : Value) (md : Addr) (F : Nat -> Addr) : List (Str × Value) := [("__module__", v0), ("__firstlineno__", v1), ("__slots__", v2), ("__init__", .ref (F 0)), ("__lt__", .ref (F 1)), ("__gt__", .ref (F 2)), ("__eq__", .ref (F 3)), ("__le__", .ref (F 4)), ("__ge__", .ref (F 5)), ("__hash__", .none), ("__static_attributes__", v10), ("obj", .ref md), ("__doc__", .none)]
noncomputable def kMd (C : Addr) (t : Tok) : Obj := ⟨.type "member_descriptor", none, .fields #[.str "obj" t, .ref C, .builtin "proto.slot", .builtin "proto.slot#set", .int 0 0], #[]⟩
noncomputable def qu1 (C d : Addr) (x : Value) : Obj := ⟨.ref C, some d, .plain, #[some x]⟩
noncomputable def zw3 (lam : Addr) : Obj := ⟨.type "cell", none, .cell (some (.ref lam)), #[]⟩
noncomputable def kLam (P : PySem.Params) (c : Addr) (dct : Option Addr) (doc pm ct : Value) (an : Option Addr) : Obj := ⟨.type "function", dct, .func ⟨(qb4 P).name, (qb4 P).qual, (qb4 P).params, .expr (qb4 P).body, (qb4 P).scope, 3, [], .none, .none, doc, pm, an, .ref c, ct, 0⟩, #[]⟩
noncomputable def xe7 (d : Option Addr) (sl : Array (Option Value)) (a0 : Value) (r : List Value) (q : Str) (t : Tok) : Obj := ⟨.type "code", d, .fields ⟨a0 :: .str q t :: r⟩, sl⟩
noncomputable def qr8 (x : Str) (t : Tok) (z : Int) (u : Tok) (n : Nat) : Obj := ⟨.type "list", none, .seq #[.str x t, .int z u] n, #[]⟩
inductive KSet (P : PySem.Params) (cell lam C lt : Addr) (F : List (Addr × Obj)) : Prop
 | mk (N B md ci ltc : Addr) (fa : Nat -> Addr) (f : Nat -> Int × Tok) (u1 u2 t13 q1 q2 : Tok) (v0 v1 v2 v10 ctp a1 a2 : Value) (d1 d2 : Option Addr) (s1 s2 : Array (Option Value)) (r1 r2 : List Value) (el : fa 1 = lt) (e1 : F = [(C, kCls C N B u1 u2 (some (.bool false))), (N, nsO f (kL v0 v1 v2 v10 md fa) 3), (fa 0, zf0 P ci), (ci, xe7 d1 s1 a1 r1 "cmp_to_key.<locals>.K.__init__" q1), (md, kMd C t13), (lt, kLt P cell ltc ctp), (ltc, xe7 d2 s2 a2 r2 "cmp_to_key.<locals>.K.__lt__" q2), (cell, zw3 lam)])
inductive LamAt (P : PySem.Params) (h : Heap) (lam lc : Addr) : Prop
 | mk (d1 d2 : Option Addr) (doc pm ct a0 : Value) (an : Option Addr) (sl : Array (Option Value)) (r : List Value) (t : Tok) (e1 : h.get? lam = some (kLam P lc d1 doc pm ct an)) (e2 : h.get? lc = some (xe7 d2 sl a0 r (qb4 P).qual t))
theorem qa5 {h h' : Heap} {news : List (Addr × Obj)} (m : PySem.W.X.Mem h h' [] news) : ∀ b o, h.get? b = some o -> h'.get? b = some o := fun b o e => m.keep b o e (by rw [show PySem.W.X.away [] b = true from rfl, Bool.or_true])
theorem xq8 {K : Frag} {h : Heap} (all : ∀ p ∈ K, h.get? p.1 = some p.2) : K.In h := by
 intro a o e
 induction K with
 | nil => exact q6q e
 | cons p K ih =>
  rw [List.lookup_cons] at e
  induction q : a == p.1 with
  | true => rw [q] at e; obtain rfl := w4z e; rw [show a = p.1 by simpa using q]; exact all p (.head _)
  | false => rw [q] at e; exact ih (fun p hp => all p (.tail _ hp)) e
theorem zg5 {K : Frag} {h : Heap} (all : ∀ p ∈ K, h.get? p.1 = some p.2) : ∀ p ∈ K, K.lookup p.1 = some p.2 := by
 intro p hp
 induction e : K.lookup p.1 with
 | some o => rw [<- all p hp, xq8 all _ _ e]
 | none =>
  have := List.lookup_eq_none_iff.mp e p hp
  simp at this
structure KLs (K : Frag) (C md : Addr) : Prop where
 made : makesIn K C = true
 seta : findIn K (.ref C) "__setattr__" = some (some (.builtin "object.__setattr__"))
 over : plainOver K C = true
 taker : takerIn K C "obj" = some (some (.ref md))
 tM : typeIn K (.ref md) = some (.type "member_descriptor")
 slot : slotIn K md C = some 0
 pg : plainGet K C "obj" = true
 ic : isClsIn K C = true
 fobj : findIn K (.ref C) "obj" = some (some (.ref md))
 gM : specialIn K (.ref md) "__get__" = some (some (.builtin "member_descriptor.__get__"))
 tkM : takesIn K (.ref md) = some true
structure KLk (K : Frag) (C md i : Addr) : Prop extends KLs K C md where
 init : findIn K (.ref C) "__init__" = some (some (.ref i))
 fI : typeIn K (.ref i) = some (.type "function")
section
variable {K : Frag} {P : PySem.Params} {C N bt md i ci : Addr} {u1 u2 : Tok} {x5 : Option Value} {oN : Obj} {t13 : Tok}
noncomputable def gotK (name : Str) : Option Value -> Option Value
 | some v => some v
 | none => fastBuiltinOwn "object" name
theorem zv4 {name : Str} {r r' : Option Value} (eC : K.lookup C = some (kCls C N bt u1 u2 x5)) (eN : nsIn K N name = some r) (h : gotK name r = r') : findIn K (.ref C) name = some r' := by
 subst h
 unfold findIn
 dsimp only
 rw [eC]
 show alongIn K name [.ref C, .type "object"] = _
 have : ownIn K name (.ref C) = some r := by
  unfold ownIn
  dsimp only
  rw [eC]
  exact eN
 unfold alongIn
 rw [this]
 induction r with
 | some v => rfl
 | none =>
  show alongIn K name [.type "object"] = _
  unfold alongIn
  show (match some (fastBuiltinOwn "object" name) with | some (some v) => some (some v) | some none => alongIn K name [] | none => none) = some (fastBuiltinOwn "object" name)
  cases fastBuiltinOwn "object" name <;> rfl
theorem zr8 {v0 v1 v2 v10 : Value} {f : Nat -> Int × Tok} {fa : Nat -> Addr} (eC : K.lookup C = some (kCls C N bt u1 u2 x5))
 (eN : K.lookup N = some (nsO f (kL v0 v1 v2 v10 md fa) 3)) (eM : K.lookup md = some (kMd C t13)) : KLs K C md /\ findIn K (.ref C) "__init__" = some (some (.ref (fa 0))) := by
 have F : ∀ {name : Str} {r' : Option Value} (r : Option Value), nsIn K N name = some r -> gotK name r = r' -> findIn K (.ref C) name = some r' := fun _ a b => zv4 eC a b
 have f_obj : findIn K (.ref C) "obj" = some (some (.ref md)) := F (some (.ref md)) (by unfold nsIn; rw [eN]; kernel_rfl) (by kernel_rfl)
 have tM : typeIn K (.ref md) = some (.type "member_descriptor") := by unfold typeIn; dsimp only; rw [eM]; rfl
 have tC : typeIn K (.ref C) = some (.type "type") := by unfold typeIn; dsimp only; rw [eC]; rfl
 have cC : clsIn K C = some ⟨"K", [.type "object"], [.ref C, .type "object"], N, "cmp_to_key.<locals>.K", false, ["obj"], [], false, none, false⟩ := by unfold clsIn; rw [eC]; rfl
 have sM : ∀ {nm : Str} {r}, findIn K (.type "member_descriptor") nm = r -> specialIn K (.ref md) nm = r := fun h => by unfold specialIn; rw [tM]; exact h
 have tk : takesIn K (.ref md) = some true := by
  unfold takesIn
  rw [sM (nm := "__set__") (r := some (some (.builtin "member_descriptor.__set__"))) (by kernel_rfl)]
 refine ⟨⟨?_, F none (by unfold nsIn; rw [eN]; kernel_rfl) (by kernel_rfl), by unfold plainOver; rw [cC]; kernel_rfl, ?_, tM, ?_, ?_, by unfold isClsIn; rw [cC]; rfl, f_obj, sM (by kernel_rfl), tk⟩, F (some (.ref (fa 0))) (by unfold nsIn; rw [eN]; kernel_rfl) (by kernel_rfl)⟩
 . unfold makesIn
   rw [eC]
   have s1 : specialIn K (.ref C) "__call__" = some (some (.builtin "type.__call__")) := by unfold specialIn; rw [tC]; kernel_rfl
   have s2 : instIn K (.ref C) (.type "type") = some true := by unfold instIn; rw [tC]; kernel_rfl
   show (!false && !false && _ && _ && _ && _ && _ && _) = true
   rw [s1, s2]
   simp
 . unfold takerIn
   rw [f_obj]
   show ((takesIn K (.ref md)).map _) = _
   rw [tk]
   rfl
 . unfold slotIn
   rw [show recIn K md "member_descriptor" = some [.str "obj" t13, .ref C, .builtin "proto.slot", .builtin "proto.slot#set", .int 0 0] by unfold recIn; rw [eM]; rfl, cC]
   simp
 . unfold plainGet
   rw [F (name := "__getattribute__") (r' := some (.builtin "object.__getattribute__")) none (by unfold nsIn; rw [eN]; kernel_rfl) (by kernel_rfl), F (name := "__getattr__") (r' := none) none (by unfold nsIn; rw [eN]; kernel_rfl) (by kernel_rfl)]
   simp
theorem jj3 {v0 v1 v2 v10 : Value} {f : Nat -> Int × Tok} {fa : Nat -> Addr} (eC : K.lookup C = some (kCls C N bt u1 u2 x5))
 (eN : K.lookup N = some (nsO f (kL v0 v1 v2 v10 md fa) 3)) (eI : K.lookup (fa 0) = some (zf0 P ci)) (eM : K.lookup md = some (kMd C t13)) : KLk K C md (fa 0) :=
 have x := zr8 eC eN eM
 ⟨x.1, x.2, by unfold typeIn; dsimp only; rw [eI]; rfl⟩
end
theorem zm5 {P : PySem.Params} {h : Heap} (KX : (KG P).In h) : h.NoLimit := by
 have e : (KG P).lookup cStatics = some ⟨.none, none, .dict #[] 0, #[]⟩ := by kernel_rfl
 exact ⟨fun _ => none, ⟨_, _, _, KX _ _ e, rfl, fun e he => (by simp at he), fun _ => rfl⟩, rfl⟩
noncomputable def kStI (P : PySem.Params) : List Stmt := (kDef P 2).2.1
theorem zv7 (P) : ∃ p1 p2 p3 p4, kStI P = [.Assign [.Attribute (.Name "self" p1) "obj" p2] (.Name "obj" p3) p4] := ⟨_, _, _, _, rfl⟩
noncomputable def kFdI (P : PySem.Params) (c : Addr) : FuncData := ⟨"__init__", "cmp_to_key.<locals>.K.__init__", (kDef P 2).1, .stmts (kDef P 2).2.1, (kDef P 2).2.2, 3, [], .none, .none, .none, .str "law_ik0059_01" 419, none, .ref c, .none, 0⟩
structure DefIs (fd : FuncData) (ns : List Str) : Prop where
 names : fd.scope.names.all (fun x => match x.2 with | .cell => false | _ => true) = true
 loc : ∀ x ∈ ns, fd.scope.names.lookup x = some .local
 co : fd.scope.isCoroutine = false
 gen : fd.scope.isGenerator = false
 kd : fd.scope.kind = .function
theorem kI_is (P c) : DefIs (kFdI P c) [("self" : Str), ("obj" : Str)] := ⟨by kernel_rfl, fun x hx => by simp only [List.mem_cons, List.not_mem_nil, or_false] at hx; rcases hx with rfl | rfl <;> kernel_rfl, by kernel_rfl, by kernel_rfl, by kernel_rfl⟩
theorem zw2 (P c) (a b : Value) : bindArgs (kFdI P c) ⟨[a, b], []⟩ = pure [(("self" : Str), a), (("obj" : Str), b)] := by kernel_rfl
theorem zm7 {P c} {vs : List Value} {s : Shared} (h : vs.length = 2) : BindsTo s (kFdI P c) ⟨vs, []⟩ ([("self" : Str), ("obj" : Str)].zip vs) := qe6 h fun a b => zw2 P c a b
theorem jj6 {prog : Program} {w : World} {A : Around} {s : Shared} {K : Frag} {C md i ci x d : Addr} {v : Value} {R : Result -> Shared -> Prop} (hA : A.depth < 1000) (hnl : s.heap.NoLimit) (X : K.In s.heap) (L : KLk K C md i) (hI : s.heap.get? i = some (zf0 w.params ci)) (hcr : s.heap.CodeRec (.ref ci) "cmp_to_key.<locals>.K.__init__") (hx : s.heap.get? x = some (instObj C d)) (hd : ∃ o, s.heap.get? d = some o)
 (h : ∀ h' tk, (∀ b o, s.heap.get? b = some o -> b ≠ x -> h'.get? b = some o) -> h'.get? x = some (qu1 C d v) -> R (.ok (.ret .none)) { s with heap := h', toks := tk }) :
 codeAny (model prog w) A (.call (.ref i) ⟨[.ref x, v], []⟩) R s := by
 have Z := kI_is w.params ci
 have d1 : (zf0 w.params ci).data = .func (kFdI w.params ci) := by kernel_rfl
 have d2 : (kFdI w.params ci).body = .stmts (kStI w.params) := by kernel_rfl
 have d3 : s.heap.CodeRec (kFdI w.params ci).code (kFdI w.params ci).qualname := hcr
 obtain ⟨vs, hvs⟩ : ∃ vs : List Value, vs = [.ref x, v] := ⟨_, rfl⟩
 rw [<- hvs]
 refine codeAny_call_def hA hI d1 hnl d3 d2 (zm7 (by rw [hvs]; rfl)) (fun y hy z => ?_) (fun y hy => ?_) (fun h₁ hns hk => ?_) Z.co Z.gen Z.kd
 . have := List.all_eq_true.mp Z.names y hy
   rw [z] at this
   exact j7q this
 . have := (List.of_mem_zip hy).1
   exact Z.loc _ this
 . subst hvs
   obtain ⟨p1, p2, p3, p4, e⟩ := zv7 w.params
   rw [e]
   obtain ⟨od, hd⟩ := hd
   have hx1 := hk _ _ hx
   have IA : InstAt h₁ x (instObj C d) C (some od) := ⟨hx1, rfl, rfl, hk _ _ hd⟩
   have Xs := X.keeps hk
   refine wpAny_execs_cons (plainObj_wpAny_Assign_Attribute (wpAny_Name (wpAny_loadName_local Z.kd (Z.loc "obj" (by decide)) hns (by rfl) ?_) rfl) rfl)
   refine wpAny_Name (wpAny_loadName_local Z.kd (Z.loc "self" (by decide)) hns (by rfl) ?_) rfl
   refine set_plain Xs IA L.seta (osa_descr KF.slot_mset Xs IA L.over L.taker L.tM (xt2 Xs IA L.slot (by decide) ?_))
   refine wpAny_execs_nil ?_
   refine h _ _ (fun b o e hb => ?_) (Heap.get?_update_self _ hx1 rfl)
   exact (Heap.get?_update_other _ _ (Ne.symm hb)).trans (hk b o e)
noncomputable abbrev AX (fr : Option (List Env)) (gu : Option (List Code)) : Around := { handled := none, depth := 900, frames := fr, guards := gu, units := 9000 }
theorem xi6 {α : Type} {M : Model} {A : Around} {t : Sem α} {Q : α -> Shared -> Prop} {E : VP} {s : Shared} (hd : A.depth <= 900) (hu : A.units <= 9000) (hh : A.handled = none) (h : wpAny M (AX A.frames A.guards) t Q E s) : wpAny M A t Q E s :=
 fun Γ p hΓ => h Γ p ⟨hΓ.1.trans hh, Nat.le_trans hΓ.2.1 hd, hΓ.2.2.1, hΓ.2.2.2.1, Nat.le_trans hΓ.2.2.2.2 hu⟩
theorem jj5 {prog : Program} {w : World} {s : Shared} {fr : Option (List Env)} {gu : Option (List Code)} {Q : VP} {E : VP} (KX : (KG w.params).In s.heap) (hg : s.gens = #[])
 {cell lam C lt : Addr} {x : Value} {F : Prs} (hF : KSet w.params cell lam C lt F) (hA : ∀ p ∈ F, s.heap.get? p.1 = some p.2)
 (hQ : ∀ a h' tk, (∀ b o, s.heap.get? b = some o -> h'.get? b = some o) -> ∀ d, s.heap.get? a = none -> h'.get? a = some (qu1 C d x) -> s.heap.get? d = none -> h'.get? d = some emptyDict -> Q (.ref a) { s with heap := h', gens := #[], toks := tk }) :
 wpAny (model prog w) (AX fr gu) (call (.ref C) [x]) Q E s := by
 obtain ⟨hh, gg, dd, t, os⟩ := s
 obtain rfl : gg = #[] := hg
 dsimp only at KX hA hQ
 have X := xq8 hA
 have la := zg5 hA
 obtain ⟨N, bt, md, ci, ltc, fa, f, u1, u2, t13, q1, q2, v0, v1, v2, v10, ctp, a1, a2, d1, d2, s1, s2, r1, r2, -, hK⟩ := hF
 have L : KLk F C md (fa 0) := jj3 (la (C, _) (by rw [hK]; exact .head _)) (la (N, _) (by rw [hK]; exact .tail _ (.head _))) (la (fa 0, _) (by rw [hK]; exact .tail _ (.tail _ (.head _)))) (la (md, _) (by rw [hK]; exact .tail _ (.tail _ (.tail _ (.tail _ (.head _))))))
 have hI := hA (fa 0, _) (by rw [hK]; exact .tail _ (.tail _ (.head _)))
 have hO := hA (ci, _) (by rw [hK]; exact .tail _ (.tail _ (.tail _ (.head _))))
 have k2 : ∀ b o, hh.get? b = some o -> ((hh.push emptyDict).push (instObj C hh.objs.size)).get? b = some o := fun b o e => w6z _ (w6z _ e)
 have hsz : (hh.push emptyDict).objs.size = hh.objs.size + 1 := Heap.size_push _ _
 have hx : ((hh.push emptyDict).push (instObj C hh.objs.size)).get? (hh.objs.size + 1) = some (instObj C hh.objs.size) := by rw [<- hsz]; exact Heap.get?_push_size _ rfl
 have hn : hh.get? (hh.objs.size + 1) = none := Heap.get?_none_of_le (Nat.le_succ _)
 refine wpAny_call (make_core (makes_of X L.made) (looks_findIn X L.init) (fun self => bind_fn X self L.fI) (.inl rfl) ?_)
 refine jj6 (show 901 < 1000 by decide) ((zm5 KX).keeps k2) (X.keeps k2) L (k2 _ _ hI) ⟨ci, _, ⟨a1 :: .str _ q1 :: r1⟩, q1, rfl, k2 _ _ hO, rfl, rfl⟩ hx ⟨_, w6z _ (Heap.get?_push_size _ rfl)⟩ fun h' tk hk hx' => ?_
 exact ⟨rfl, hQ _ h' tk (fun b o e => hk b o (k2 b o e) (fun z => by rw [z, hn] at e; exact q6q e)) _ hn hx' (Heap.get?_none_of_le (Nat.le_refl _)) (hk _ _ (w6z _ (Heap.get?_push_size _ rfl)) (Nat.ne_of_lt (Nat.lt_succ_self _)))⟩
noncomputable def cmpR (xa xb : Str) (za zb : Int) : Bool := if za = zb then decide (xa.cps.toList < xb.cps.toList) else decide (zb < za)
noncomputable def cD (xa xb : Str) : Int := b2i (decide (xb.cps.toList < xa.cps.toList)) - b2i (decide (xa.cps.toList < xb.cps.toList))
section
variable {prog : Program} {w : World} {A : Around} {E : VP} {s : Shared} {env : Env}
theorem xu2 {x : Str} {p1 p2 p3 : Pos} {m : Str -> Option Value} {i : Int} {l : Addr} {items : Array Value} {v : Value} {Q : VP} (hk : env.scope.kind = .function) (hl : env.kindOf x = some .local) (hdb : (x == ("__debug__" : Str)) = false) (hn : s.heap.Ns env.locals m) (hm : m x = some (.ref l))
 (hI : s.heap.IsList l items) (h0 : 0 <= i) (h63 : i < 2 ^ 63) (hx : items[i.toNat]? = some v) (h : ∀ tk, Q v { s with toks := tk }) : wpAny (model prog w) A (eval (.Subscript (.Name x p1) (.Constant (.int i) 0 p2) p3) env) Q E s := by
 refine Subscript_ (wpAny_Name (wpAny_loadName_local hk hl hn hm (wpAny_Constant_int ?_)) hdb)
 have hT : Shared.TypeIs { s with toks := s.toks + 1 } (.ref l) "list" := Heap.IsList.typeIs (s := { s with toks := s.toks + 1 }) hI
 exact tail_any hT slot_list_getitem.lookup (wpAny_getItem_list (s := { s with toks := s.toks + 1 }) hI h0 h63 hx (h _)) rfl
end
structure LamIs (info : FnInfo) (ns : List Str) : Prop where
 names : info.scope.names.all (fun x => match x.2 with | .cell => false | _ => true) = true
 loc : ∀ x ∈ ns, info.scope.names.lookup x = some .local
 co : info.scope.isCoroutine = false
 gen : info.scope.isGenerator = false
 kd : info.scope.kind = .function
theorem k3_is (P) : LamIs (qb4 P) [("one" : Str), ("two" : Str)] := ⟨by kernel_rfl, fun x hx => by simp only [List.mem_cons, List.not_mem_nil, or_false] at hx; rcases hx with rfl | rfl <;> kernel_rfl, by kernel_rfl, by kernel_rfl, by kernel_rfl⟩
inductive K3Body : Expr -> Prop
 | mk (p1 p2 p3 p4 p5 p6 p7 p8 p9 p10 p11 p12 p13 p14 p15 p16 p17 p18 p19 p20 p21 p22 p23 p24 p25 p26 p27 p28 p29 p30 : Pos) : K3Body (.IfExp (.Compare (.Subscript (.Name "one" p1) (.Constant (.int 1) 0 p2) p3) [.NotEq] [.Subscript (.Name "two" p4) (.Constant (.int 1) 0 p5) p6] p7)
  (.BinOp (.Subscript (.Name "two" p8) (.Constant (.int 1) 0 p9) p10) .Sub (.Subscript (.Name "one" p11) (.Constant (.int 1) 0 p12) p13) p14)
  (.BinOp (.Compare (.Subscript (.Name "one" p15) (.Constant (.int 0) 0 p16) p17) [.Gt] [.Subscript (.Name "two" p18) (.Constant (.int 0) 0 p19) p20] p21) .Sub (.Compare (.Subscript (.Name "one" p22) (.Constant (.int 0) 0 p23) p24) [.Lt] [.Subscript (.Name "two" p25) (.Constant (.int 0) 0 p26) p27] p28) p29) p30)
theorem zw6 (P) : K3Body (qb4 P).body := .mk _ _ _ _ _ _ _ _ _ _ _ _ _ _ _ _ _ _ _ _ _ _ _ _ _ _ _ _ _ _
section
variable {prog : Program} {w : World} {A : Around} {E : VP} {env : Env}
theorem jj9 {s : Shared} {e : Expr} {m : Str -> Option Value} {pa pb : Addr} {xa xb : Str} {za zb : Int} {ta tbb ua ub : Tok} {na nb : Nat} {Q : VP} (he : K3Body e)
 (hk : env.scope.kind = .function) (h1 : env.kindOf "one" = some .local) (h2 : env.kindOf "two" = some .local) (hn : s.heap.Ns env.locals m) (m1 : m "one" = some (.ref pa)) (m2 : m "two" = some (.ref pb)) (hpa : s.heap.get? pa = some (qr8 xa ta za ua na)) (hpb : s.heap.get? pb = some (qr8 xb tbb zb ub nb))
 (hQ : ∀ r t tk, (za = zb /\ r = cD xa xb) \/ (¬ za = zb /\ r = zb - za) -> Q (.int r t) { s with toks := tk }) : wpAny (model prog w) A (eval e env) Q E s := by
 cases he
 have la : s.heap.IsList pa #[.str xa ta, .int za ua] := ⟨_, hpa, rfl, na, rfl⟩
 have lb : s.heap.IsList pb #[.str xb tbb, .int zb ub] := ⟨_, hpb, rfl, nb, rfl⟩
 have I1 : ∀ {p1 p2 p3 : Pos} {i : Int} {v : Value} {tk : Nat} {Q' : VP} {E' : VP}, 0 <= i -> i < 2 ^ 63 -> #[Value.str xa ta, .int za ua][i.toNat]? = some v -> (∀ tk, Q' v { s with toks := tk }) -> wpAny (model prog w) A (eval (.Subscript (.Name "one" p1) (.Constant (.int i) 0 p2) p3) env) Q' E' { s with toks := tk } := fun a b c d => xu2 (s := { s with toks := _ }) hk h1 rfl hn m1 la a b c d
 have I2 : ∀ {p1 p2 p3 : Pos} {i : Int} {v : Value} {tk : Nat} {Q' : VP} {E' : VP}, 0 <= i -> i < 2 ^ 63 -> #[Value.str xb tbb, .int zb ub][i.toNat]? = some v -> (∀ tk, Q' v { s with toks := tk }) -> wpAny (model prog w) A (eval (.Subscript (.Name "two" p1) (.Constant (.int i) 0 p2) p3) env) Q' E' { s with toks := tk } := fun a b c d => xu2 (s := { s with toks := _ }) hk h2 rfl hn m2 lb a b c d
 refine wpAny_IfExp (wpAny_isTrue_Compare1 (I1 (tk := s.toks) (by decide) (by decide) rfl fun tk => I2 (by decide) (by decide) rfl fun tk => ne_int (wpAny_truthy_bool ?_)) rfl)
 by_cases hz : za = zb
 . have hb : (za != zb) = false := by simp [hz]
   rw [hb]
   refine wpAny_BinOp (wpAny_Compare1 (I1 (by decide) (by decide) rfl fun tk => I2 (by decide) (by decide) rfl fun tk => PySem.P.gt_str (wpAny_Compare1 (I1 (by decide) (by decide) rfl fun tk => I2 (by decide) (by decide) rfl fun tk => PySem.P.lt_str (sub_bool (hQ _ _ _ (.inl ⟨hz, rfl⟩)))) rfl)) rfl)
 . have hb : (za != zb) = true := by simp [hz]
   rw [hb]
   exact wpAny_BinOp (I2 (by decide) (by decide) rfl fun tk => I1 (by decide) (by decide) rfl fun tk => sub_int (hQ _ _ _ (.inr ⟨hz, rfl⟩)))
noncomputable def kFdL (P : PySem.Params) (lc : Addr) (doc pm lct : Value) (an : Option Addr) : FuncData := ⟨(qb4 P).name, (qb4 P).qual, (qb4 P).params, .expr (qb4 P).body, (qb4 P).scope, 3, [], .none, .none, doc, pm, an, .ref lc, lct, 0⟩
theorem zw7 {P lc doc pm lct an} (a b : Value) : bindArgs (kFdL P lc doc pm lct an) ⟨[a, b], []⟩ = pure [(("one" : Str), a), (("two" : Str), b)] := by kernel_rfl
theorem k_cmp {s : Shared} {lam lc pa pb : Addr} {ldc : Option Addr} {doc pm lct : Value} {an : Option Addr} {xa xb : Str} {za zb : Int} {ta tbb ua ub : Tok} {na nb : Nat} {Q : VP} (hd : A.depth < 1000) (hnl : s.heap.NoLimit)
 (hlam : s.heap.get? lam = some (kLam w.params lc ldc doc pm lct an)) (hcr : s.heap.CodeRec (.ref lc) (qb4 w.params).qual) (hpa : s.heap.get? pa = some (qr8 xa ta za ua na)) (hpb : s.heap.get? pb = some (qr8 xb tbb zb ub nb))
 (hQ : ∀ r t h' tk, (∀ b o, s.heap.get? b = some o -> h'.get? b = some o) -> (za = zb /\ r = cD xa xb) \/ (¬ za = zb /\ r = zb - za) -> Q (.int r t) { s with heap := h', toks := tk }) :
 wpAny (model prog w) A (call (.ref lam) [.ref pa, .ref pb]) Q E s := by
 have Z := k3_is w.params
 have d1 : (kLam w.params lc ldc doc pm lct an).data = .func (kFdL w.params lc doc pm lct an) := by kernel_rfl
 refine wpAny_call (kla_callFunE (fd := kFdL w.params lc doc pm lct an) (body := (qb4 w.params).body) hd hlam d1 Z.co Z.gen rfl hcr ?_)
 rw [zw7]
 refine w2z (wpAny_newFunctionEnv (fun x hx z => ?_) (fun x hx => ?_) (fun h₁ hns hsb => ?_) Z.kd)
 . have := List.all_eq_true.mp Z.names x hx
   rw [z] at this
   exact j7q this
 . simp only [List.mem_cons, List.not_mem_nil, or_false] at hx
   rcases hx with rfl | rfl
   . exact Z.loc _ (.head _)
   . exact Z.loc _ (.tail _ (.head _))
 . have hk : ∀ b o, s.heap.get? b = some o -> h₁.get? b = some o := fun b o e => hsb.extBut b o (Nat.ne_of_lt (Heap.lt_size e)) (w6z _ e)
   exact ⟨hnl.keeps hk, kla_codeExpr (jj9 (zw6 _) Z.kd (Z.loc "one" (.head _)) (Z.loc "two" (.tail _ (.head _))) hns rfl rfl (hk _ _ hpa) (hk _ _ hpb) fun r t tk hr => hQ r t h₁ tk hk hr)⟩
end
noncomputable def kStL (P : PySem.Params) : List Stmt := (kDef P 3).2.1
inductive KLBody : List Stmt -> Prop
 | mk (p1 p2 p3 p4 p5 p6 p7 p8 p9 : Pos) : KLBody [.Return (some (.Compare (.Call (.Name "mycmp" p1) [.Attribute (.Name "self" p2) "obj" p3, .Attribute (.Name "other" p4) "obj" p5] [] p6) [.Lt] [.Constant (.int 0) 0 p7] p8)) p9]
theorem zw0 (P) : KLBody (kStL P) := .mk _ _ _ _ _ _ _ _ _
noncomputable def kFdT (P : PySem.Params) (cell c : Addr) (t : Value) : FuncData := ⟨"__lt__", "cmp_to_key.<locals>.K.__lt__", (kDef P 3).1, .stmts (kDef P 3).2.1, (kDef P 3).2.2, 3, [("mycmp", cell)], .none, .none, .none, .str "law_ik0059_01" 419, none, .ref c, t, 0⟩
theorem kL_is (P cell c t) : DefIs (kFdT P cell c t) [("self" : Str), ("other" : Str)] := ⟨by kernel_rfl, fun x hx => by simp only [List.mem_cons, List.not_mem_nil, or_false] at hx; rcases hx with rfl | rfl <;> kernel_rfl, by kernel_rfl, by kernel_rfl, by kernel_rfl⟩
theorem zv9 (P cell c t) : (kFdT P cell c t).scope.names.lookup ("mycmp" : Str) = some .free := by kernel_rfl
theorem zw1 {P cell c t} {vs : List Value} {s : Shared} (h : vs.length = 2) : BindsTo s (kFdT P cell c t) ⟨vs, []⟩ ([("self" : Str), ("other" : Str)].zip vs) := qe6 h fun a b => by kernel_rfl
section
variable {prog : Program} {w : World} {A : Around} {E : VP}
theorem zr9 {s : Shared} {env : Env} {K : Frag} {C md x d p : Addr} {m : Str -> Option Value} {nm : Str} {p1 p2 : Pos} {Q : VP} (X : K.In s.heap) (L : KLs K C md) (hx : s.heap.get? x = some (qu1 C d (.ref p))) {od : Obj} (hd : s.heap.get? d = some od) (hk : env.scope.kind = .function) (hl : env.kindOf nm = some .local) (hdb : (nm == ("__debug__" : Str)) = false) (hn : s.heap.Ns env.locals m) (hm : m nm = some (.ref x))
 (h : ∀ tk, Q (.ref p) { s with toks := tk }) : wpAny (model prog w) A (eval (.Attribute (.Name nm p1) "obj" p2) env) Q E s := by
 have IA : InstAt s.heap x (qu1 C d (.ref p)) C (some od) := ⟨hx, rfl, rfl, hd⟩
 refine Attribute_any_ (wpAny_Name (wpAny_loadName_local hk hl hn hm ?_) hdb) rfl
 exact get_bind X IA (plainGet_of L.pg).1 (findObj_data L.ic L.fobj L.gM L.tkM) (plainGet_of L.pg).2 (wpAny_call (slot_get (s := { s with toks := s.toks + 1 }) X IA L.slot (v := .ref p) rfl (handed_on rfl (h _))))
end
theorem cD_lt (xa xb : Str) : cD xa xb < 0 ↔ xa.cps.toList < xb.cps.toList := by
 have asym : ∀ (a b : List Nat), a < b -> ¬ b < a := fun a b h1 h2 => List.lt_irrefl a (List.lt_trans h1 h2)
 unfold cD
 by_cases h1 : xa.cps.toList < xb.cps.toList
 . rw [decide_eq_true h1, decide_eq_false (asym _ _ h1)]
   exact ⟨fun _ => h1, fun _ => by decide⟩
 . rw [decide_eq_false h1]
   refine ⟨fun h => ?_, fun h => absurd h h1⟩
   cases e : decide (xb.cps.toList < xa.cps.toList) <;> rw [e] at h <;> exact absurd h (by decide)
theorem je8 {xa xb : Str} {za zb r : Int} (h : (za = zb /\ r = cD xa xb) \/ (¬ za = zb /\ r = zb - za)) : cmpR xa xb za zb = decide (r < 0) := by
 unfold cmpR
 rcases h with ⟨h, rfl⟩ | ⟨h, rfl⟩
 . rw [if_pos h]; exact decide_eq_decide.mpr (cD_lt xa xb).symm
 . rw [if_neg h]; exact decide_eq_decide.mpr (by omega)
theorem k_lt {prog : Program} {w : World} {s : Shared} {fr : Option (List Env)} {gu : Option (List Code)} {Q : VP} {E : VP} (KX : (KG w.params).In s.heap) (hg : s.gens = #[])
 {cell lam C lt lc ka kb da db pa pb : Addr} {F : Prs} (hF : KSet w.params cell lam C lt F) (hA : ∀ p ∈ F, s.heap.get? p.1 = some p.2) (hlam : LamAt w.params s.heap lam lc)
 {xa xb : Str} {za zb : Int} {ta tbb ua ub : Tok} {na nb : Nat}
 (hka : s.heap.get? ka = some (qu1 C da (.ref pa))) (hkb : s.heap.get? kb = some (qu1 C db (.ref pb))) (hda : ∃ o, s.heap.get? da = some o) (hdb : ∃ o, s.heap.get? db = some o) (hpa : s.heap.get? pa = some (qr8 xa ta za ua na)) (hpb : s.heap.get? pb = some (qr8 xb tbb zb ub nb))
 (hQ : ∀ r h' tk, (∀ b o, s.heap.get? b = some o -> h'.get? b = some o) -> cmpR xa xb za zb = r -> Q (.bool r) { s with heap := h', gens := #[], toks := tk }) :
 wpAny (model prog w) (AX fr gu) (call (.ref lt) [.ref ka, .ref kb]) Q E s := by
 obtain ⟨hh, gg, dd, t, os⟩ := s
 obtain rfl : gg = #[] := hg
 obtain ⟨oa, hda⟩ := hda
 obtain ⟨ob, hdb⟩ := hdb
 dsimp only at KX hA hlam hka hkb hda hdb hpa hpb hQ
 have X := xq8 hA
 have la := zg5 hA
 obtain ⟨N, bt, md, ci, ltc, fa, f, u1, u2, t13, q1, cq2, v0, v1, v2, v10, ctp, a1, ca2, d1, d2, s1, s2, r1, cr2, -, hK⟩ := hF
 have L : KLs F C md := (zr8 (la (C, _) (by rw [hK]; exact .head _)) (la (N, _) (by rw [hK]; exact .tail _ (.head _))) (la (md, _) (by rw [hK]; exact .tail _ (.tail _ (.tail _ (.tail _ (.head _))))))).1
 have hL := hA (lt, _) (by rw [hK]; exact .tail _ (.tail _ (.tail _ (.tail _ (.tail _ (.head _))))))
 have hO := hA (ltc, _) (by rw [hK]; exact .tail _ (.tail _ (.tail _ (.tail _ (.tail _ (.tail _ (.head _)))))))
 have hcell := hA (cell, _) (by rw [hK]; exact .tail _ (.tail _ (.tail _ (.tail _ (.tail _ (.tail _ (.tail _ (.head _))))))))
 obtain ⟨ldc, lcd, doc, pm, lct, la0, an, lcs, lr, lt1, hlam, hlc⟩ := hlam
 clear hA hK la
 have Z := kL_is w.params cell ltc ctp
 have d1 : (kLt w.params cell ltc ctp).data = .func (kFdT w.params cell ltc ctp) := by kernel_rfl
 have d2 : (kFdT w.params cell ltc ctp).body = .stmts (kStL w.params) := by kernel_rfl
 have d3 : hh.CodeRec (kFdT w.params cell ltc ctp).code (kFdT w.params cell ltc ctp).qualname := (⟨ltc, _, ⟨ca2 :: .str _ cq2 :: cr2⟩, cq2, rfl, hO, rfl, rfl⟩ : hh.CodeRec (.ref ltc) "cmp_to_key.<locals>.K.__lt__")
 obtain ⟨vs, hvs⟩ : ∃ vs : List Value, vs = [.ref ka, .ref kb] := ⟨_, rfl⟩
 rw [<- hvs]
 refine wpAny_call (codeAny_call_def (s := ⟨hh, #[], dd, t, os⟩) (show 900 < 1000 by decide) hL d1 (zm5 KX) d3 d2 (zw1 (by rw [hvs]; rfl)) (fun y hy z => ?_) (fun y hy => ?_) (fun h₁ hns hk => ?_) Z.co Z.gen Z.kd)
 . have := List.all_eq_true.mp Z.names y hy
   rw [z] at this
   exact j7q this
 . exact Z.loc _ (List.of_mem_zip hy).1
 . subst hvs
   have hbo := zw0 w.params
   clear d2
   generalize kStL w.params = bo at hbo
   obtain ⟨p1, p2, p3, p4, p5, p6, p7, p8, p9⟩ := hbo
   have Xs := X.keeps hk
   refine wpAny_execs_cons (wpAny_Return_some (wpAny_Compare1 (wpAny_Call_NameR (wpAny_Name (wpAny_loadName_free Z.kd (zv9 w.params cell ltc ctp) rfl ⟨_, hk _ _ hcell, rfl⟩ ?_) rfl)) rfl))
   show wpAny _ _ (callWith p6 (.ref lam) [] [(false, eval _ _), (false, eval _ _)] []) _ _ _
   refine callWith_function (o := kLam w.params lc ldc doc pm lct an) (fd := kFdL w.params lc doc pm lct an) (evalArgs_plain (spliced_cons (zr9 Xs L (hk _ _ hka) (hk _ _ hda) Z.kd (Z.loc "self" (.head _)) rfl hns rfl fun tk => spliced_cons (zr9 (s := ⟨h₁, #[], dd, tk, os⟩) Xs L (hk _ _ hkb) (hk _ _ hdb) Z.kd (Z.loc "other" (.tail _ (.head _))) rfl hns rfl fun tk' => spliced_nil ⟨⟨hk _ _ hlam, by kernel_rfl⟩, ?_⟩))))
   refine k_cmp (s := ⟨h₁, #[], dd, tk', os⟩) (show 901 < 1000 by decide) ((zm5 KX).keeps hk) (hk _ _ hlam) ⟨lc, _, ⟨la0 :: .str _ lt1 :: lr⟩, lt1, rfl, hk _ _ hlc, rfl, rfl⟩ (hk _ _ hpa) (hk _ _ hpb) fun r t2 h2 tk2 hk2 hr => ?_
   refine wpAny_Constant_int (lt_int ?_)
   exact hQ _ _ _ (fun b o e => hk2 b o (hk b o e)) (je8 hr)
noncomputable def qt3 (name qual : Str) (params : Arguments) (body : List Stmt) (scope : Scope) (clos : List (Str × Addr)) (pm : Value) (c : Addr) (ct : Value) : Obj := ⟨.type "function", none, .func ⟨name, qual, params, .stmts body, scope, mainGlobals, clos, .none, .none, .none, pm, none, .ref c, ct, builtinsNs⟩, #[]⟩
noncomputable def v2q (h : Heap) (c : Addr) (q : Str) : Prop := ∃ d sl a0 t r, h.get? c = some (xe7 d sl a0 r q t)
theorem v2q.keeps {h h' : Heap} {c : Addr} {q : Str} (x : v2q h c q) (k : ∀ b o, h.get? b = some o -> o.cls = .type "code" -> h'.get? b = some o) : v2q h' c q := let ⟨d, sl, a0, t, r, e⟩ := x; ⟨d, sl, a0, t, r, k _ _ e rfl⟩
theorem zh4 {h : Heap} {c P : Addr} {q : Str} {ps : Array Value} (x : h.CodeRec (.ref c) q) (y : h.TableAt c P ps) : v2q h c q := by
 obtain ⟨c', o, vs, t, e, g, e1, e2⟩ := x
 obtain rfl := Value.ref.inj e
 obtain ⟨⟨o', vs', f1, f2, f3, f4⟩, _⟩ := y
 rw [g] at f1; obtain rfl := w4z f1
 obtain ⟨cls, d, dt, sl⟩ := o
 subst f2 e1
 obtain ⟨l⟩ := vs
 cases l with
 | nil => simp at e2
 | cons a0 r =>
  cases r with
  | nil => simp at e2
  | cons b r =>
   simp at e2
   subst e2
   exact ⟨d, sl, a0, t, r, g⟩
theorem xd6 {h : Heap} {a : Addr} (x : h.objs.size <= a) : h.get? a = none := by
 cases e : h.get? a with
 | none => rfl
 | some o => exact absurd (Heap.lt_size e) (Nat.not_lt.mpr x)
theorem qn5 {h h' : Heap} {a : Addr} (k : ∀ b o, h.get? b = some o -> h'.get? b = some o) (x : h'.get? a = none) : h.get? a = none := by
 cases e : h.get? a with
 | none => rfl
 | some o => rw [k a o e] at x; exact k2q x
theorem zl9 {M : Model} {A : Around} {E : VP} {s : Shared} {name qual : Str} {params : Arguments} {body : List Stmt} {scope : Scope} {env : Env} {c P : Addr} {ps : Array Value} {pos : Pos} {firstLine : Nat} {mg : Str -> Option Value}
 {clos : List (Str × Addr)} {Q : VP} (hdoc : docOf body = none) (hcl : closureFor scope env = pure clos) (hge0 : env.globals = mainGlobals) (hg : s.heap.Ns mainGlobals mg) (hcode : env.code = .ref c) (C : CodeHd s.heap c P) (hP : s.heap.get? P = some (tabObj ps)) (ht : TriplesOk ps.toList)
 (hgP : mainGlobals ≠ P) (hb : s.heap.BuiltinsAt mg P)
 (h : ∀ c' ctv h' tk, (clos = [] -> ctv = .none) -> Heap.ExtBut P s.heap h' -> (codeAmong pos ps.toList = none /\ s.heap.get? c' = none /\ v2q h' c' qual /\ h'.get? P = some (tabObj (ps ++ #[rawInt pos.line, rawInt pos.col, .ref c'])) \/ codeAmong pos ps.toList = some (.ref c') /\ h'.get? P = some (tabObj ps)) ->
  Q (.ref h'.objs.size) { s with heap := h'.push (qt3 name qual params body scope clos ((mg "__name__").getD .none) c' ctv), toks := tk })
 (hit : ∀ v, codeAmong pos ps.toList = some v -> ∃ c', v = .ref c') :
 wpAny M A (makeFunction name qual params (.stmts body) scope env [] [] [] pos firstLine) Q E s := by
 rw [makeFunction_eq]
 simp only [List.zip_nil_right, List.filterMap_nil, List.isEmpty_nil, if_true, pure_bind]
 obtain ⟨bm, ob, b1, b2, _, b3, b4, b5, b6, b7⟩ := hb
 have key : ∀ (s₁ : Shared) (ctv : Value) {Q' : VP}, (∀ b o, s.heap.get? b = some o -> s₁.heap.get? b = some o) -> s₁.gens = s.gens -> s₁.drawn = s.drawn -> s₁.os = s.os ->
  (∀ c' h' tk, Heap.ExtBut P s.heap h' -> (codeAmong pos ps.toList = none /\ s.heap.get? c' = none /\ v2q h' c' qual /\ h'.get? P = some (tabObj (ps ++ #[rawInt pos.line, rawInt pos.col, .ref c'])) \/ codeAmong pos ps.toList = some (.ref c') /\ h'.get? P = some (tabObj ps)) -> Q' (.ref c') { s with heap := h', toks := tk }) ->
  wpAny M A (functionCode env pos firstLine name qual params scope (.stmts body)) Q' E s₁ := by
  intro s₁ ctv Q' k g1 g2 g3 hq
  obtain ⟨h1, gg, dd, tt, oo⟩ := s₁
  obtain ⟨h0, gg0, dd0, tt0, oo0⟩ := s
  subst g1; subst g2; subst g3
  cases hn : codeAmong pos ps.toList with
  | none =>
   refine wpAny_functionCodeX hcode ((C.keeps k).code (k _ _ hP) ht) ((C.keeps k).tab (k _ _ hP)) hn fun c' h' tk x1 x2 x3 _ x4 x5 x6 => ?_
   obtain ⟨P', _, _, x7⟩ := x6
   exact hq c' h' tk (fun b o hb e => x1 b o hb (k b o e)) (.inl ⟨by first | rfl | exact hn, qn5 k (xd6 x2), zh4 x4 x7, x5.2⟩)
  | some v =>
   obtain ⟨c', rfl⟩ := hit v hn
   unfold functionCode
   exact wpAny_codeAt_hit hcode ((C.keeps k).code (k _ _ hP) ht) hn (hq c' h1 tt (fun b o _ e => k b o e) (.inr ⟨by first | rfl | exact hn, k _ _ hP⟩))
 unfold makeTail
 rw [hcl, hge0]
 refine w0z (w2z ?_)
 cases hcs : clos with
 | nil =>
  subst hcs
  simp only [List.isEmpty_nil, if_true]
  refine w0z (w2z ?_)
  refine w0z (key s .none (fun _ _ e => e) rfl rfl rfl fun c' h' tk x1 x5 => ?_)
  have hg' := hg.extBut x1 hgP
  refine w0z (wpAny_builtinsFor hg' b1 b2 (x1 _ _ b3 b4) b5 b6 b7 (w0z (wpAny_nsGet hg' ?_)))
  rw [hdoc]
  exact w0z (w2z (wpAny_newObj_type (h c' .none h' tk (fun _ => rfl) x1 x5) (by size_fits)))
 | cons q r =>
  subst hcs
  simp only [List.isEmpty_cons, Bool.false_eq_true, if_false]
  refine w0z (wpAny_newTextTuple ?_)
  refine w0z (key _ .none (fun b o e => w6z _ e) rfl rfl rfl fun c' h' tk x1 x5 => ?_)
  have hg' := hg.extBut x1 hgP
  refine w0z (wpAny_builtinsFor hg' b1 b2 (x1 _ _ b3 b4) b5 b6 b7 (w0z (wpAny_nsGet hg' ?_)))
  rw [hdoc]
  exact w0z (w2z (wpAny_newObj_type (h c' _ h' tk (fun z => nomatch z) x1 x5) (by size_fits)))
noncomputable def dObj (es : Array DictEntry) (n : Nat) : Obj := ⟨.type "dict", none, .dict es n, #[]⟩
section
variable {prog : Program} {w : World} {A : Around} {E : VP} {s : Shared}
theorem zp1 {env : Env} {NS : Addr} {name : Str} {v : Value} {es : Array DictEntry} {n : Nat} {Q : Unit -> Shared -> Prop} (hst : storeName env name v = localSet env name v) (hL : env.locals = NS) (hN : s.heap.get? NS = some (dObj es n)) (hr : aRefKeyMayBeTheName name es = false)
 (x : ∀ z h', h'.get? NS = some (Obj.putName name z (.str name s.toks) v (dObj es n)) -> (∀ b o, b ≠ NS -> s.heap.get? b = some o -> h'.get? b = some o) -> Q () { s with heap := h', toks := s.toks + 1 })
 (hf : ∀ z, (Obj.putName name z (.str name s.toks) v (dObj es n)).isFreed = false) : wpAny (model prog w) A (storeName env name v) Q E s := by
 rw [hst]
 unfold localSet
 rw [hL]
 refine w0z (wpAny_load hN ?_)
 show wpAny _ _ (nsSet NS name v) _ _ _
 unfold nsSet strHash
 refine w0z (w0z (wpAny_askSetting (w2z (w0z (wpAny_mkText (w0z (wpAny_loadPart hN ?_)))))))
 show wpAny _ _ (if aRefKeyMayBeTheName name es = true then _ else _) _ _ _
 rw [hr]
 refine wpAny_updatePart hN ?_
 exact x _ _ (Heap.get?_update_self _ hN (hf _)) (fun b o hb e => (Heap.SameBut.update ..).extBut b o hb e)
noncomputable abbrev Nl := List (Str × Value)
noncomputable def setF (f : Nat -> Int × Tok) (n : Nat) (p : Int × Tok) (i : Nat) : Int × Tok := bif Nat.beq i n then p else f i
theorem zo1 {f : Nat -> Int × Tok} {l : Nl} (name : Str) : aRefKeyMayBeTheName name (ents f 0 l).toArray = false := by
 have h : (ents f 0 l).toArray.any (·.refKey) = false := by
  rw [<- Array.any_toList, List.any_eq_false]
  intro e he
  obtain ⟨x, t, q⟩ := xv3 he
  unfold DictEntry.refKey
  rw [q]; exact Bool.false_ne_true
 rw [aRefKeyMayBeTheName_at, h, Bool.and_false]
structure CB (h : Heap) (NS KC kt : Addr) (l : Nl) (ps : Array Value) (mg : Str -> Option Value) : Prop where
 ns : ∃ f, h.get? NS = some (nsO f l l.length)
 tab : h.get? kt = some (tabObj ps)
 hd : CodeHd h KC kt
 tr : TriplesOk ps.toList
 gl : h.Ns mainGlobals mg
 bm : h.BuiltinsAt mg kt
 n1 : NS ≠ kt
 n2 : mainGlobals ≠ kt
 n3 : mainGlobals ≠ NS
noncomputable def Kept (NS kt : Addr) (h h' : Heap) : Prop := ∀ b o, b ≠ NS -> b ≠ kt -> h.get? b = some o -> h'.get? b = some o
theorem Kept.trans {NS kt : Addr} {h h' h'' : Heap} (a : Kept NS kt h h') (b : Kept NS kt h' h'') : Kept NS kt h h'' := fun x o n1 n2 e => b x o n1 n2 (a x o n1 n2 e)
theorem CB.stays {h h' : Heap} {NS KC kt : Addr} {l : Nl} {ps : Array Value} {mg : Str -> Option Value} (C : CB h NS KC kt l ps mg) (K : Kept NS kt h h') {b : Addr} {o : Obj} (e : h.get? b = some o) (h1 : o.cls ≠ .type "dict") (h2 : o.cls ≠ .none) : h'.get? b = some o := by
 refine K b o ?_ ?_ e
 . rintro rfl
   obtain ⟨f, z⟩ := C.ns
   obtain rfl := w4z (z.symm.trans e); exact h1 rfl
 . rintro rfl
   rw [C.tab] at e; obtain rfl := w4z e; exact h2 rfl
theorem CB.next {h h' : Heap} {NS KC kt : Addr} {l l' : Nl} {ps ps' : Array Value} {mg : Str -> Option Value} (C : CB h NS KC kt l ps mg) (K : Kept NS kt h h') (e1 : ∃ f, h'.get? NS = some (nsO f l' l'.length)) (e2 : h'.get? kt = some (tabObj ps')) (t : TriplesOk ps'.toList) : CB h' NS KC kt l' ps' mg := by
 refine ⟨e1, e2, ?_, t, ?_, ?_, C.n1, C.n2, C.n3⟩
 . obtain ⟨o, vs, file, tf, flags, tg, inF, text, tt, e1, e2, r⟩ := C.hd
   exact ⟨o, vs, file, tf, flags, tg, inF, text, tt, C.stays K e1 (by rw [e2]; decide) (by rw [e2]; decide), e2, r⟩
 . obtain ⟨o, es, ep, ho, r⟩ := C.gl
   exact ⟨o, es, ep, K _ _ C.n3 C.n2 ho, r⟩
 . obtain ⟨bm, o, b1, b2, b3, b4, b5, b6, r⟩ := C.bm
   exact ⟨bm, o, b1, b2, b3, b4, C.stays K b5 (by rw [b6]; decide) (by rw [b6]; decide), b6, r⟩
theorem xi8 {ps : Array Value} {l c : Nat} {v : Value} (h : TriplesOk ps.toList) : TriplesOk (ps ++ #[rawInt l, rawInt c, v]).toList := by
 rw [show (ps ++ #[rawInt l, rawInt c, v]).toList = ps.toList ++ [rawInt l, rawInt c, v] from by simp]
 exact TriplesOk_snoc _ _ _ _ h
theorem v2q.stays {h h' : Heap} {NS KC kt : Addr} {l : Nl} {ps : Array Value} {mg : Str -> Option Value} (C : CB h NS KC kt l ps mg) (K : Kept NS kt h h') {c : Addr} {q : Str} (x : v2q h c q) : v2q h' c q := x.keeps fun b o e q => C.stays K e (by rw [q]; decide) (by rw [q]; decide)
theorem qt4 {env : Env} {NS KC kt : Addr} {name : Str} {v : Value} {l : Nl} (l' : Nl) {ps : Array Value} {mg : Str -> Option Value} {Q : Unit -> Shared -> Prop} (C : CB s.heap NS KC kt l ps mg)
 (hst : storeName env name v = localSet env name v) (hL : env.locals = NS) (ho : ∀ f z tk, Obj.putName name z (.str name tk) v (nsO f l l.length) = nsO (setF f l.length (z, tk)) l' l'.length)
 (x : ∀ h', CB h' NS KC kt l' ps mg -> Kept NS kt s.heap h' -> Q () { s with heap := h', toks := s.toks + 1 }) : wpAny (model prog w) A (storeName env name v) Q E s := by
 obtain ⟨f, hN⟩ := C.ns
 refine zp1 (es := (ents f 0 l).toArray) (n := l.length) hst hL hN (zo1 name) (fun z h' e k => ?_) (fun z => by
  rw [show dObj (ents f 0 l).toArray l.length = nsO f l l.length from rfl, ho]; rfl)
 have K : Kept NS kt s.heap h' := fun b o n1 _ e => k b o n1 e
 exact x h' (C.next K ⟨_, e.trans (congrArg some (ho f z s.toks))⟩ (k _ _ (Ne.symm C.n1) C.tab) C.tr) K
theorem jl8 {env : Env} {NS KC kt : Addr} {name qual : Str} {args : Arguments} {body : List Stmt} {scope : Scope} {pos : Pos} {l : Nl} {ps : Array Value} {mg : Str -> Option Value} {clos : List (Str × Addr)} (l' : Addr -> Nl) {Q : Flow -> Shared -> Prop}
 (C : CB s.heap NS KC kt l ps mg) (hst : ∀ v, storeName env name v = localSet env name v) (hL : env.locals = NS) (hG : env.globals = mainGlobals) (hK : env.code = .ref KC) (hdoc : docOf body = none) (hcl : closureFor scope env = pure clos) (hdef : defaultsOf args env = ([], [])) (hann : annTrees args none env = []) (hq : qualnameIn env name name = qual)
 (ho : ∀ f z tk a, Obj.putName name z (.str name tk) (.ref a) (nsO f l l.length) = nsO (setF f l.length (z, tk)) (l' a) (l' a).length) (hit : ∀ v, codeAmong pos ps.toList = some v -> ∃ c', v = .ref c')
 (x : ∀ c' ctv f ps' h' tk', CB h' NS KC kt (l' f) ps' mg -> Kept NS kt s.heap h' -> (clos = [] -> ctv = .none) -> s.heap.get? f = none -> h'.get? f = some (qt3 name qual args body scope clos ((mg "__name__").getD .none) c' ctv) ->
  (codeAmong pos ps.toList = none /\ s.heap.get? c' = none /\ v2q h' c' qual /\ ps' = ps ++ #[rawInt pos.line, rawInt pos.col, .ref c'] \/ codeAmong pos ps.toList = some (.ref c') /\ ps' = ps) -> Q .next { s with heap := h', toks := tk' }) :
 wpAny (model prog w) A (exec (.FunctionDef name args body [] none [] scope none name pos) env) Q E s := by
 rw [exec_def, hdef, hann, hq]
 refine w0z (wpAny_standAt (w0z (w8z ?_)))
 refine w0z (w2z (w0z (w8z (w2z (w8z (w0z (w2z ?_)))))))
 refine zl9 hdoc hcl hG C.gl hK C.hd C.tab C.tr C.n2 C.bm (fun c' ctv h1 tk x0 x1 x5 => ?_) hit
 refine w0z (wpAny_standAt (w0z ?_))
 unfold bindName
 refine w0z (w8z (wpAny_point (w0z ?_)))
 have sz := Heap.get?_push_size h1 (o := qt3 name qual args body scope clos ((mg "__name__").getD .none) c' ctv) rfl
 have K1 : Kept NS kt s.heap (h1.push (qt3 name qual args body scope clos ((mg "__name__").getD .none) c' ctv)) := fun b o _ n2 e => w6z _ (x1 b o n2 e)
 have hfn : s.heap.get? h1.objs.size = none := by
  induction e : s.heap.get? h1.objs.size with
  | none => rfl
  | some o =>
   have z := xd6 (h := h1) (Nat.le_refl h1.objs.size)
   by_cases q : h1.objs.size = kt
   . rw [q] at z
     rcases x5 with ⟨_, _, _, y⟩ | ⟨_, y⟩ <;> (exact k2q (y.symm.trans z))
   . rw [x1 _ _ q e] at z; exact k2q z
 obtain ⟨ps', C1, x6⟩ : ∃ ps', CB (h1.push (qt3 name qual args body scope clos ((mg "__name__").getD .none) c' ctv)) NS KC kt l ps' mg /\ (codeAmong pos ps.toList = none /\ s.heap.get? c' = none /\ v2q (h1.push (qt3 name qual args body scope clos ((mg "__name__").getD .none) c' ctv)) c' qual /\ ps' = ps ++ #[rawInt pos.line, rawInt pos.col, .ref c'] \/ codeAmong pos ps.toList = some (.ref c') /\ ps' = ps) := by
  rcases x5 with ⟨y1, y0, y2, y3⟩ | ⟨y1, y2⟩
  . exact ⟨_, C.next K1 (let ⟨f, z⟩ := C.ns; ⟨f, w6z _ (x1 _ _ C.n1 z)⟩) (w6z _ y3) (xi8 C.tr), .inl ⟨y1, y0, y2.keeps fun b o e _ => w6z _ e, rfl⟩⟩
  . exact ⟨_, C.next K1 (let ⟨f, z⟩ := C.ns; ⟨f, w6z _ (x1 _ _ C.n1 z)⟩) (w6z _ y2) C.tr, .inr ⟨y1, rfl⟩⟩
 refine qt4 (s := { s with heap := h1.push (qt3 name qual args body scope clos ((mg "__name__").getD .none) c' ctv), toks := tk }) (l' h1.objs.size) C1 (hst _) hL (fun f z t => ho f z t _) (fun h2 C2 K2 => ?_)
 refine wpAny_point (w2z ?_)
 refine x c' ctv _ ps' h2 _ C2 (K1.trans K2) x0 hfn (C1.stays K2 sz (by show Value.type "function" ≠ _; decide) (by show Value.type "function" ≠ _; decide)) ?_
 rcases x6 with ⟨y1, y0, y2, y3⟩ | y
 . exact .inl ⟨y1, y0, y2.stays C1 K2, y3⟩
 . exact .inr y
theorem CB.gone {h h' : Heap} {NS KC kt : Addr} {l : Nl} {ps : Array Value} {mg : Str -> Option Value} (C : CB h' NS KC kt l ps mg) (K : Kept NS kt h h') {a : Addr} (x : h'.get? a = Option.none) : h.get? a = Option.none := by
 induction e : h.get? a with
 | none => rfl
 | some o =>
  have h1 : a ≠ NS := by
   rintro rfl
   obtain ⟨f, z⟩ := C.ns
   exact k2q (z.symm.trans x)
  have h2 : a ≠ kt := by rintro rfl; rw [C.tab] at x; exact k2q x
  rw [K a o h1 h2 e] at x; exact k2q x
end
noncomputable def xk6 (P : PySem.Params) : Scope := match qt5 P 42 with
 | .ClassDef _ _ _ _ _ _ sc _ _ _ _ :: _ => sc
 | _ => ⟨.function, [], false, false, []⟩
noncomputable def kEnv (P : PySem.Params) (NS KC cell : Addr) (fu fr : Option Addr) (bt : Addr) : Env := ⟨xk6 P, NS, mainGlobals, [("mycmp", cell)], "cmp_to_key.<locals>.K.", fu, .ref KC, fr, bt⟩
noncomputable def pos6 (i : Nat) : Pos := match i with
 | 0 => ⟨24, 8, 25, 26⟩ | 1 => ⟨27, 8, 28, 49⟩ | 2 => ⟨30, 8, 31, 49⟩ | 3 => ⟨33, 8, 34, 50⟩ | 4 => ⟨36, 8, 37, 50⟩ | _ => ⟨39, 8, 40, 50⟩
noncomputable def mnm (i : Nat) : Str := match i with
 | 0 => "__init__" | 1 => "__lt__" | 2 => "__gt__" | 3 => "__eq__" | 4 => "__le__" | _ => "__ge__"
noncomputable def mqu (i : Nat) : Str := match i with
 | 0 => "cmp_to_key.<locals>.K.__init__" | 1 => "cmp_to_key.<locals>.K.__lt__" | 2 => "cmp_to_key.<locals>.K.__gt__" | 3 => "cmp_to_key.<locals>.K.__eq__" | 4 => "cmp_to_key.<locals>.K.__le__" | _ => "cmp_to_key.<locals>.K.__ge__"
noncomputable def mcl (cell : Addr) (i : Nat) : List (Str × Addr) := match i with
 | 0 => [] | _ => [("mycmp", cell)]
noncomputable def qu2 : Nat -> (Nat -> Addr) -> Nl
 | 0, _ => []
 | n + 1, F => qu2 n F ++ [(mnm n, .ref (F n))]
noncomputable def tabL : Nat -> (Nat -> Addr) -> List Value
 | 0, _ => []
 | n + 1, c => tabL n c ++ [rawInt (pos6 n).line, rawInt (pos6 n).col, .ref (c n)]
noncomputable def updA (F : Nat -> Addr) (i : Nat) (a : Addr) (j : Nat) : Addr := bif Nat.beq j i then a else F j
theorem qj4 {F : Nat -> Addr} {i : Nat} {a : Addr} : updA F i a i = a := by unfold updA; rw [Nat.beq_refl]; rfl
theorem xc6 {F : Nat -> Addr} {i j : Nat} {a : Addr} (h : j < i) : updA F i a j = F j := by
 unfold updA
 induction e : Nat.beq j i with
 | true => exact absurd (Nat.eq_of_beq_eq_true e) (Nat.ne_of_lt h)
 | false => rfl
theorem xs0 {F : Nat -> Addr} {i : Nat} {a : Addr} (n : Nat) : n <= i -> qu2 n (updA F i a) = qu2 n F /\ tabL n (updA F i a) = tabL n F := by
 induction n with
 | zero => exact fun _ => ⟨rfl, rfl⟩
 | succ n ih =>
  intro h
  obtain ⟨x, y⟩ := ih (Nat.le_of_succ_le h)
  unfold qu2 tabL
  rw [x, y, xc6 h]
  exact ⟨rfl, rfl⟩
noncomputable def mfn (P : PySem.Params) (cell : Addr) (i : Nat) (c : Addr) (ct : Value) : Obj := qt3 (mnm i) (mqu i) (kDef P (i + 2)).1 (kDef P (i + 2)).2.1 (kDef P (i + 2)).2.2 (mcl cell i) (.str "law_ik0059_01" 419) c ct
noncomputable def qu3 (tm zf tf tq : Nat) (sl : Addr) : Nl := [("__module__", .str "cpy313.functools" tm), ("__qualname__", .str "cmp_to_key.<locals>.K" tq), ("__firstlineno__", .int zf tf), ("__slots__", .ref sl)]
noncomputable def defA (tm zf tf tq : Nat) (sl : Addr) (i : Nat) (F : Nat -> Addr) (a : Addr) : Nl := qu3 tm zf tf tq sl ++ (qu2 i F ++ [(mnm i, .ref a)])
structure DefOk (P : PySem.Params) (env : Env) (cell : Addr) (i : Nat) : Prop where
 st : (qz6 P).drop (i + 2) = .FunctionDef (mnm i) (kDef P (i + 2)).1 (kDef P (i + 2)).2.1 [] none [] (kDef P (i + 2)).2.2 none (mnm i) (pos6 i) :: (qz6 P).drop (i + 3)
 sn : ∀ v, storeName env (mnm i) v = localSet env (mnm i) v
 dc : docOf (kDef P (i + 2)).2.1 = none
 cl : closureFor (kDef P (i + 2)).2.2 env = pure (mcl cell i)
 df : defaultsOf (kDef P (i + 2)).1 env = ([], [])
 an : annTrees (kDef P (i + 2)).1 none env = []
 qn : qualnameIn env (mnm i) (mnm i) = mqu i
 new : ∀ c : Nat -> Addr, codeAmong (pos6 i) (tabL i c) = none
 hit : ∀ c : Nat -> Addr, codeAmong (pos6 i) (tabL 6 c) = some (.ref (c i))
 put : ∀ (tm zf tf tq : Nat) (sl : Addr) (F : Nat -> Addr) (f : Nat -> Int × Tok) (z : Int) (tk : Tok) (a : Addr), Obj.putName (mnm i) z (.str (mnm i) tk) (.ref a) (nsO f (qu3 tm zf tf tq sl ++ qu2 i F) (qu3 tm zf tf tq sl ++ qu2 i F).length) = nsO (setF f (qu3 tm zf tf tq sl ++ qu2 i F).length (z, tk)) (defA tm zf tf tq sl i F a) (defA tm zf tf tq sl i F a).length
theorem zs3 (P : PySem.Params) (NS KC cell : Addr) (fu fr : Option Addr) (bt : Addr) : ∀ i, i < 6 -> DefOk P (kEnv P NS KC cell fu fr bt) cell i
 | 0, _ => ⟨by kernel_rfl, fun _ => by kernel_rfl, by kernel_rfl, by kernel_rfl, by kernel_rfl, by kernel_rfl, by kernel_rfl, fun _ => by kernel_rfl, fun _ => by kernel_rfl, fun _ _ _ _ _ _ _ _ _ _ => by kernel_rfl⟩
 | 1, _ => ⟨by kernel_rfl, fun _ => by kernel_rfl, by kernel_rfl, by kernel_rfl, by kernel_rfl, by kernel_rfl, by kernel_rfl, fun _ => by kernel_rfl, fun _ => by kernel_rfl, fun _ _ _ _ _ _ _ _ _ _ => by kernel_rfl⟩
 | 2, _ => ⟨by kernel_rfl, fun _ => by kernel_rfl, by kernel_rfl, by kernel_rfl, by kernel_rfl, by kernel_rfl, by kernel_rfl, fun _ => by kernel_rfl, fun _ => by kernel_rfl, fun _ _ _ _ _ _ _ _ _ _ => by kernel_rfl⟩
 | 3, _ => ⟨by kernel_rfl, fun _ => by kernel_rfl, by kernel_rfl, by kernel_rfl, by kernel_rfl, by kernel_rfl, by kernel_rfl, fun _ => by kernel_rfl, fun _ => by kernel_rfl, fun _ _ _ _ _ _ _ _ _ _ => by kernel_rfl⟩
 | 4, _ => ⟨by kernel_rfl, fun _ => by kernel_rfl, by kernel_rfl, by kernel_rfl, by kernel_rfl, by kernel_rfl, by kernel_rfl, fun _ => by kernel_rfl, fun _ => by kernel_rfl, fun _ _ _ _ _ _ _ _ _ _ => by kernel_rfl⟩
 | 5, _ => ⟨by kernel_rfl, fun _ => by kernel_rfl, by kernel_rfl, by kernel_rfl, by kernel_rfl, by kernel_rfl, by kernel_rfl, fun _ => by kernel_rfl, fun _ => by kernel_rfl, fun _ _ _ _ _ _ _ _ _ _ => by kernel_rfl⟩
 | _ + 6, h => absurd h (by exact (Nat.not_lt.mpr (Nat.le_add_left _ _)))
structure CSt (P : PySem.Params) (cell : Addr) (b : Bool) (base : Nl) (NS KC kt : Addr) (mg : Str -> Option Value) (h0 h : Heap) (c0 : Nat -> Addr) (i : Nat) (F c : Nat -> Addr) : Prop where
 cb : CB h NS KC kt (base ++ qu2 i F) (tabL (bif b then 6 else i) c).toArray mg
 kp : Kept NS kt h0 h
 fn : ∀ j, j < i -> ∃ ct, h.get? (F j) = some (mfn P cell j (c j) ct) /\ h0.get? (F j) = none /\ (j = 0 -> ct = .none)
 cd : match b with
  | true => c = c0
  | false => ∀ j, j < i -> v2q h (c j) (mqu j) /\ h0.get? (c j) = none
section
variable {prog : Program} {w : World} {A : Around} {E : VP} {P : PySem.Params} {NS KC kt cell : Addr} {fu fr : Option Addr} {bt : Addr} {mg : Str -> Option Value} {b : Bool} {tm zf tf tq : Nat} {sl : Addr} {h0 : Heap} {c0 : Nat -> Addr}
theorem CB.fn {h h' : Heap} {l : Nl} {ps : Array Value} (C : CB h NS KC kt l ps mg) (K : Kept NS kt h h') {f : Addr} {i : Nat} {c : Addr} {ct : Value} (e : h.get? f = some (mfn P cell i c ct)) : h'.get? f = some (mfn P cell i c ct) := C.stays K e (by show Value.type "function" ≠ _; decide) (by show Value.type "function" ≠ _; decide)
theorem zo6 {s : Shared} {Q : Flow -> Shared -> Prop} {i : Nat} {F c : Nat -> Addr} (hi : i < 6) (hmn : mg "__name__" = some (.str "law_ik0059_01" 419)) (S : CSt P cell b (qu3 tm zf tf tq sl) NS KC kt mg h0 s.heap c0 i F c)
 (x : ∀ F' c' h' tk', CSt P cell b (qu3 tm zf tf tq sl) NS KC kt mg h0 h' c0 (i + 1) F' c' -> Q .next { s with heap := h', toks := tk' }) :
 wpAny (model prog w) A (exec (.FunctionDef (mnm i) (kDef P (i + 2)).1 (kDef P (i + 2)).2.1 [] none [] (kDef P (i + 2)).2.2 none (mnm i) (pos6 i)) (kEnv P NS KC cell fu fr bt)) Q E s := by
 have D := zs3 P NS KC cell fu fr bt i hi
 have ea : codeAmong (pos6 i) (tabL (bif b then 6 else i) c).toArray.toList = bif b then some (.ref (c i)) else none := by
  induction b with
  | true => exact D.hit c
  | false => exact D.new c
 refine jl8 (defA tm zf tf tq sl i F) S.cb D.sn rfl rfl rfl D.dc D.cl D.df D.an D.qn (fun f z tk a => D.put tm zf tf tq sl F f z tk a) (fun v hv => ?_) fun c' ctv f ps' h' tk' C K N Z Fn y => ?_
 . rw [ea] at hv
   induction b with
   | true => obtain rfl := w4z hv; exact ⟨_, rfl⟩
   | false => exact q6q hv
 have Fn' : h'.get? f = some (mfn P cell i c' ctv) := by rw [Fn, hmn]; rfl
 have old : ∀ {c'' : Nat -> Addr}, (∀ j, j < i -> c'' j = c j) -> c'' i = c' -> ∀ j, j < i + 1 -> ∃ ct, h'.get? (updA F i f j) = some (mfn P cell j (c'' j) ct) /\ h0.get? (updA F i f j) = none /\ (j = 0 -> ct = .none) := fun e1 e2 j hj => by
  rcases Nat.lt_succ_iff_lt_or_eq.mp hj with lt | rfl
  . rw [xc6 lt, e1 j lt]
    obtain ⟨ct, f1, f2, f3⟩ := S.fn j lt
    exact ⟨ct, S.cb.fn K f1, f2, f3⟩
  . rw [qj4, e2]
    exact ⟨ctv, Fn', S.cb.gone S.kp Z, fun z => N (by rw [z]; rfl)⟩
 have hl : defA tm zf tf tq sl i F f = qu3 tm zf tf tq sl ++ qu2 (i + 1) (updA F i f) := by
  show _ = _ ++ (qu2 i (updA F i f) ++ [(mnm i, .ref (updA F i f i))])
  rw [(xs0 i (Nat.le_refl i)).1, qj4]
  rfl
 rw [hl] at C
 rw [ea] at y
 induction b with
 | true =>
  obtain ⟨e, -⟩ | ⟨e, rfl⟩ := y
  . exact k2q e
  . cases e
    exact x _ c h' tk' ⟨C, S.kp.trans K, old (fun _ _ => rfl) rfl, S.cd⟩
 | false =>
  obtain ⟨-, M, O, rfl⟩ | ⟨e, -⟩ := y
  . refine x _ (updA c i c') h' tk' ⟨?_, S.kp.trans K, old (fun j hj => xc6 hj) qj4, fun j hj => ?_⟩
    . have e : (tabL i c).toArray ++ #[rawInt (pos6 i).line, rawInt (pos6 i).col, .ref c'] = (tabL (i + 1) (updA c i c')).toArray := by
       show _ = (tabL i (updA c i c') ++ [rawInt (pos6 i).line, rawInt (pos6 i).col, Value.ref (updA c i c' i)]).toArray
       rw [(xs0 i (Nat.le_refl i)).2, qj4]
       simp
      exact e ▸ C
    . rcases Nat.lt_succ_iff_lt_or_eq.mp hj with lt | rfl
      . rw [xc6 lt]
        exact ⟨(S.cd j lt).1.stays S.cb K, (S.cd j lt).2⟩
      . rw [qj4]
        exact ⟨O, S.cb.gone S.kp M⟩
  . exact q6q e
theorem xv5 {Q : Flow -> Shared -> Prop} (hmn : mg "__name__" = some (.str "law_ik0059_01" 419)) (n : Nat) : ∀ {i : Nat} {F c : Nat -> Addr} {s : Shared}, i + n = 6 -> CSt P cell b (qu3 tm zf tf tq sl) NS KC kt mg h0 s.heap c0 i F c ->
 (∀ F' c' h' tk', CSt P cell b (qu3 tm zf tf tq sl) NS KC kt mg h0 h' c0 6 F' c' -> wpAny (model prog w) A (execs ((qz6 P).drop 8) (kEnv P NS KC cell fu fr bt)) Q E { s with heap := h', toks := tk' }) ->
 wpAny (model prog w) A (execs ((qz6 P).drop (i + 2)) (kEnv P NS KC cell fu fr bt)) Q E s := by
 induction n with
 | zero =>
  intro i F c s e S x
  obtain rfl : i = 6 := e
  exact x F c s.heap s.toks S
 | succ n ih =>
  intro i F c s e S x
  have hi : i < 6 := by omega
  rw [(zs3 P NS KC cell fu fr bt i hi).st]
  exact wpAny_execs_cons (zo6 hi hmn S fun F' c' h' tk' S' => ih (s := { s with heap := h', toks := tk' }) (by omega) S' x)
end
structure KD where
 KC : Addr
 kt : Addr
 c : Nat -> Addr
noncomputable def KD.ps (k : KD) : Array Value := (tabL 6 k.c).toArray
noncomputable def KD.all (k : KD) : List Addr := [k.KC, k.kt, k.c 0, k.c 1]
noncomputable def PsD (h : Heap) (ok : Option KD) (KC kt : Addr) (ps : Array Value) : Prop := match ok with
 | none => ps = #[]
 | some k => KC = k.KC /\ kt = k.kt /\ ps = k.ps /\ v2q h (k.c 0) (mqu 0) /\ v2q h (k.c 1) (mqu 1)
theorem PsD.keeps {h h' : Heap} {ok : Option KD} {KC kt : Addr} {ps : Array Value} (x : PsD h ok KC kt ps) (k : ∀ b o, h.get? b = some o -> o.cls = .type "code" -> h'.get? b = some o) : PsD h' ok KC kt ps := by
 induction ok with
 | none => exact x
 | some d => obtain ⟨a, b, c, d, e⟩ := x; exact ⟨a, b, c, d.keeps k, e.keeps k⟩
noncomputable def jk5 (tm zf tf tq : Nat) (sl : Addr) (F : Nat -> Addr) : Nl := qu3 tm zf tf tq sl ++ (qu2 6 F ++ ([("__hash__", .none)] : Nl))
structure BodyEnd (P : PySem.Params) (cell NS KC kt : Addr) (zf tf tq : Nat) (mg : Str -> Option Value) (h h' : Heap) (ok : Option KD) (sl : Addr) (F : Nat -> Addr) (k : KD) (tm to : Nat) : Prop where
 eKC : k.KC = KC
 ekt : k.kt = kt
 cb : CB h' NS KC kt (jk5 tm zf tf tq sl F) k.ps mg
 kp : Kept NS kt h h'
 sl : h'.get? sl = some ⟨.type "list", none, .seq #[.str "obj" to] 0, #[]⟩
 fn : ∀ j, j < 6 -> ∃ ct, h'.get? (F j) = some (mfn P cell j (k.c j) ct) /\ h.get? (F j) = none /\ (j = 0 -> ct = .none)
 c0 : v2q h' (k.c 0) (mqu 0)
 c1 : v2q h' (k.c 1) (mqu 1)
 new : ok = none -> h.get? (k.c 0) = none /\ h.get? (k.c 1) = none
 same : ∀ kk, ok = some kk -> k = kk
theorem zp9 {prog : Program} {w : World} {A : Around} {E : VP} {s : Shared} {P : PySem.Params} {NS KC kt cell : Addr} {fu fr : Option Addr} {bt : Addr} {zf tf tq : Nat} {vm : Value} {ps : Array Value} {ok : Option KD} {mg : Str -> Option Value} {Q : Flow -> Shared -> Prop}
 (hmn : mg "__name__" = some (.str "law_ik0059_01" 419)) (C : CB s.heap NS KC kt [("__module__", vm), ("__qualname__", .str "cmp_to_key.<locals>.K" tq), ("__firstlineno__", .int zf tf)] ps mg) (hps : PsD s.heap ok KC kt ps)
 (x : ∀ sl F k tm to h' tk, BodyEnd P cell NS KC kt zf tf tq mg s.heap h' ok sl F k tm to -> Q .next { s with heap := h', toks := tk }) :
 wpAny (model prog w) A (execs (qz6 P) (kEnv P NS KC cell fu fr bt)) Q E s := by
 obtain ⟨h, g, d, t, os⟩ := s
 refine wpAny_execs_cons (wpAny_Assign_Name (wpAny_Constant_str ?_))
 refine qt4 [("__module__", .str "cpy313.functools" t), ("__qualname__", .str "cmp_to_key.<locals>.K" tq), ("__firstlineno__", .int zf tf)] C (by kernel_rfl) rfl (fun f z tk => by kernel_rfl) (fun h1 C1 K1 => ?_)
 refine wpAny_execs_cons (wpAny_Assign_Name (wpAny_List (wpAny_items_cons (wpAny_Constant_str (wpAny_items_nil ⟨by show 1 <= sizeLine; decide, ?_⟩)))))
 dsimp only
 obtain ⟨h2, sl, eh, es⟩ : ∃ h2 sl, h2 = h1.push ⟨.type "list", none, .seq #[.str "obj" (t + 1 + 1)] 0, #[]⟩ /\ sl = h1.objs.size := ⟨_, _, rfl, rfl⟩
 have k2 : ∀ b o, h1.get? b = some o -> h2.get? b = some o := fun b o e => by rw [eh]; exact w6z _ e
 have SL : h2.get? sl = some ⟨.type "list", none, .seq #[.str "obj" (t + 1 + 1)] 0, #[]⟩ := by rw [eh, es]; exact Heap.get?_push_size h1 rfl
 have K2 : Kept NS kt h h2 := fun b o n1 n2 e => k2 b o (K1 b o n1 n2 e)
 have C2 := C1.next (h' := h2) (fun b o _ _ e => k2 b o e) (let ⟨f, z⟩ := C1.ns; ⟨f, k2 _ _ z⟩) (k2 _ _ C1.tab) C1.tr
 rw [<- eh, <- es]
 refine qt4 (s := ⟨h2, g, d, t + 1 + 1 + 1, os⟩) (qu3 t zf tf tq sl) C2 (by kernel_rfl) rfl (fun f z tk => by kernel_rfl) (fun h3 C3 K3 => ?_)
 clear eh es
 have fin : ∀ {b : Bool} {c0 : Nat -> Addr} {F : Nat -> Addr} {h4 : Heap} {tk4 : Tok} (k : KD), CSt P cell b (qu3 t zf tf tq sl) NS KC kt mg h2 h4 c0 6 F k.c -> k.KC = KC -> k.kt = kt -> v2q h4 (k.c 0) (mqu 0) -> v2q h4 (k.c 1) (mqu 1) -> (ok = none -> h.get? (k.c 0) = none /\ h.get? (k.c 1) = none) -> (∀ kk, ok = some kk -> k = kk) ->
  wpAny (model prog w) A (execs ((qz6 P).drop 8) (kEnv P NS KC cell fu fr bt)) Q E ⟨h4, g, d, tk4, os⟩ := fun {b c0 F h4 tk4} k S e1 e2 e4 e5 e6 e7 => by
  refine wpAny_execs_cons (wpAny_Assign_Name (wpAny_Constant_none ?_))
  refine qt4 (jk5 t zf tf tq sl F) S.cb (by kernel_rfl) rfl (fun f z tk => by kernel_rfl) (fun h5 C5 K5 => wpAny_execs_nil ?_)
  have ep : tabL (bif b then 6 else 6) k.c = tabL 6 k.c := by induction b <;> rfl
  rw [ep] at C5
  exact x sl F k t (t + 1 + 1) h5 _ ⟨e1, e2, C5, K2.trans (S.kp.trans K5), C2.stays (S.kp.trans K5) SL (by show Value.type "list" ≠ _; decide) (by show Value.type "list" ≠ _; decide), fun j hj => let ⟨ct, f1, f2, f3⟩ := S.fn j hj; ⟨ct, S.cb.fn K5 f1, C2.gone K2 f2, f3⟩, e4.stays S.cb K5, e5.stays S.cb K5, e6, e7⟩
 show wpAny _ _ (execs ((qz6 P).drop (0 + 2)) _) _ _ _
 have no : ∀ {b : Bool} {F c : Nat -> Addr} (j : Nat), j < 0 -> ∃ ct, h3.get? (F j) = some (mfn P cell j (c j) ct) /\ h2.get? (F j) = none /\ (j = 0 -> ct = .none) := fun j hj => absurd hj (Nat.not_lt_zero j)
 induction ok with
 | none =>
  obtain rfl : ps = #[] := hps
  refine xv5 (b := false) (h0 := h2) (c0 := fun _ => 0) (F := fun _ => 0) (c := fun _ => 0) hmn 6 rfl ⟨C3, K3, no (b := false), fun j hj => absurd hj (Nat.not_lt_zero j)⟩ fun F c h4 tk4 S => ?_
  exact fin ⟨KC, kt, c⟩ S rfl rfl (S.cd 0 (by exact Nat.succ_pos _)).1 (S.cd 1 (by decide)).1 (fun _ => ⟨C2.gone K2 (S.cd 0 (by exact Nat.succ_pos _)).2, C2.gone K2 (S.cd 1 (by decide)).2⟩) (fun _ e => nomatch e)
 | some k =>
  obtain ⟨q1, q2, rfl, q3, q4⟩ := hps
  refine xv5 (b := true) (h0 := h2) (c0 := k.c) (F := fun _ => 0) (c := k.c) hmn 6 rfl ⟨C3, K3, no (b := true), rfl⟩ fun F c h4 tk4 S => ?_
  obtain rfl : c = k.c := S.cd
  exact fin k S q1.symm q2.symm ((q3.stays C K2).stays C2 S.kp) ((q4.stays C K2).stays C2 S.kp) (fun e => nomatch e) (fun _ e => by obtain rfl := w4z e; rfl)
noncomputable def KSd (h : Heap) : Option KD -> Prop
 | none => h.get? 37 = some (tabObj #[])
 | some k => h.get? 37 = some (tabObj #[.int 20 0, .int 4 0, .ref k.KC]) /\ CodeHd h k.KC k.kt /\ h.get? k.kt = some (tabObj k.ps) /\ v2q h (k.c 0) (mqu 0) /\ v2q h (k.c 1) (mqu 1)
theorem xz4 {M : Model} {A : Around} {E : VP} {s : Shared} {env : Env} {c : Addr} {firstLine : Nat} {name qualname : Str} {scope : Scope} {Q : VP} (hc : env.code = .ref c) (C : CodeHd s.heap c 37) {ok : Option KD} (hS : KSd s.heap ok)
 (hQ : ∀ KC kt ps h' tk, Heap.ExtBut 37 s.heap h' -> CodeHd h' KC kt -> h'.get? kt = some (tabObj ps) -> TriplesOk ps.toList -> PsD h' ok KC kt ps -> (ok = none -> s.heap.get? KC = none /\ s.heap.get? kt = none) -> h'.get? 37 = some (tabObj #[.int 20 0, .int 4 0, .ref KC]) -> Q (.ref KC) { s with heap := h', toks := tk }) :
 wpAny M A (classCode env ⟨20, 4, 41, 23⟩ firstLine name qualname scope) Q E s := by
 induction ok with
 | none =>
  have hP : s.heap.get? 37 = some (tabObj #[]) := hS
  have hok := C.code hP trivial
  obtain ⟨o, vs, file, tf, flags, tg, inF, text, tt, op, ho, hd, h11, h2, h7, h9, h10, hop, hpd, htr, hne⟩ := id hok
  unfold classCode codeAt
  rw [hc, if_neg (show ¬ ((Value.ref c == Value.none) = true) from Bool.false_ne_true)]
  refine w0z (wpAny_fieldsOf ho hd ?_)
  rw [h11]
  refine w0z (wpAny_fieldsOf hop hpd ?_)
  rw [show codeAmong ⟨20, 4, 41, 23⟩ (#[] : Array Value).toList = none from rfl, h2, h7, h9, h10]
  refine w0z (wpAny_newCodeX fun c' P' h' tk hk hc' hP' hcode' htab' hrec' => ?_)
  have hop' := hk _ _ hop
  refine w0z (wpAny_updateFieldsOfTheText hop' hpd ?_)
  have hnew : (Obj.mapFields (fun vs => if (codeAmong ⟨20, 4, 41, 23⟩ vs.toList).isSome = true then vs else vs ++ #[rawInt 20, rawInt 4, .ref c']) op).data = .fields #[.int 20 0, .int 4 0, .ref c'] := by
   rw [Obj.data_mapFields hpd]; rfl
  have hop0 : op = tabObj #[] := by rw [hP] at hop; exact (w4z hop).symm
  have hget := Heap.get?_update_self (h := h') (fun o => Obj.mapFields (fun vs => if (codeAmong ⟨20, 4, 41, 23⟩ vs.toList).isSome = true then vs else vs ++ #[rawInt 20, rawInt 4, .ref c']) o) hop' (Obj.isFreed_of_fields hnew)
  refine w0z (wpAny_fieldsOf hget hnew ?_)
  have hPP : P' ≠ 37 := Nat.ne_of_gt (Nat.lt_of_lt_of_le (Heap.lt_size hop) hP')
  have hcP : c' ≠ 37 := Nat.ne_of_gt (Nat.lt_of_lt_of_le (Heap.lt_size hop) hc')
  have sb := (Heap.SameBut.update (h := h') (a := 37) (f := fun o => Obj.mapFields (fun vs => if (codeAmong ⟨20, 4, 41, 23⟩ vs.toList).isSome = true then vs else vs ++ #[rawInt 20, rawInt 4, .ref c']) o)).extBut
  refine w2z (hQ c' P' #[] _ _ (fun b o' hb e => sb b o' hb (hk b o' e)) ?_ (sb _ _ hPP htab'.2) trivial rfl (fun _ => ⟨xd6 hc', xd6 hP'⟩) ?_)
  . obtain ⟨o, vs, file, tf, flags, tg, inF, text, tt, e1, r⟩ := CodeHd.of hcode' htab'
    exact ⟨o, vs, file, tf, flags, tg, inF, text, tt, sb _ _ hcP e1, r⟩
  . exact hget.trans (by rw [hop0]; rfl)
 | some k =>
  obtain ⟨hP, y1, y2, y3, y4⟩ := hS
  unfold classCode
  refine wpAny_codeAt_hit hc (C.code hP (by trivial)) (c' := .ref k.KC) rfl ?_
  exact hQ k.KC k.kt k.ps s.heap s.toks (fun b o _ e => e) y1 y2 trivial ⟨rfl, rfl, rfl, y3, y4⟩ (fun e => by exact k2q e) hP
theorem ze4 {prog : Program} {w : World} {A : Around} {E : VP} {s : Shared} {P : PySem.Params} {NS KC cell : Addr} {fu fr : Option Addr} {bt : Addr} {mg : Str -> Option Value} {v : Value} {Q : VP} (hN : ∃ f, s.heap.get? NS = some (nsO f [] 0)) (hg : s.heap.Ns mainGlobals mg) (hm : mg "__name__" = some v) (x : Q v s) :
 wpAny (model prog w) A (loadName (kEnv P NS KC cell fu fr bt) "__name__") Q E s := by
 have e : loadName (kEnv P NS KC cell fu fr bt) "__name__" = (do
  if let some v <- localGet (kEnv P NS KC cell fu fr bt) "__name__" then return v
  loadGlobal (kEnv P NS KC cell fu fr bt) "__name__") := by kernel_rfl
 rw [e]
 obtain ⟨f, hN⟩ := hN
 unfold localGet
 refine w0z (w0z (wpAny_load hN ?_))
 show wpAny _ _ (nsGet NS "__name__") _ _ _
 unfold nsGet
 refine w0z (wpAny_loadPart hN ?_)
 refine w1z (a := none) (by kernel_rfl) ?_
 skip
 unfold loadGlobal
 refine w0z (wpAny_nsGet hg ?_)
 rw [hm]
 exact w2z x
section
open PySem.W.X
section
variable {α : Type} {M : Model} {A : Around} {E : VP} {U h : Heap} {g : Array GenState} {d : Drawn} {t : Tok} {os : OsState} {chg news : List (Addr × Obj)}
theorem xe2 {o : Obj} {Q : Addr -> Shared -> Prop} (D : Mem U h chg news) (hf : o.isFreed = false) (x : ∀ a h', Mem U h' chg ((a, o) :: news) -> Q a ⟨h', g, d, t, os⟩) : wpAny M A (alloc o) Q E ⟨h, g, d, t, os⟩ := wpAny_alloc (x _ _ (D.alloc hf))
theorem jj0 {a : Addr} {o : Obj} {Q : Obj -> Shared -> Prop} (D : Mem U h chg news) (hm : (a, o) ∈ news) (x : Q o ⟨h, g, d, t, os⟩) : wpAny M A (load a) Q E ⟨h, g, d, t, os⟩ := wpAny_load (D.nw _ hm).1 x
theorem xq1 {a : Addr} {q : Option Value} {o : Obj} {Q : Obj -> Shared -> Prop} (D : Mem U h chg news) (e : U.get? a = some o) (hc : hasCls o = true) (x : Q o ⟨h, g, d, t, os⟩) : wpAny M A (loadPart a q) Q E ⟨h, g, d, t, os⟩ := wpAny_loadPart (D.old a o e (by rw [hc]; rfl)) x
theorem zm0 {a : Addr} {f : Obj -> Obj} {o o' : Obj} {Q : Unit -> Shared -> Prop} (D : Mem U h chg news) (i : Nat) (hi : news[i]? = some (a, o)) (ho : f o = o') (hf : o'.isFreed = false) (x : ∀ h', Mem U h' chg (news.set i (a, o')) -> Q () ⟨h', g, d, t, os⟩) :
 wpAny M A (update a f) Q E ⟨h, g, d, t, os⟩ := by
 subst ho
 exact wpAny_update (D.at i a o hi) (x _ (D.update hi hf))
theorem qw0 {β : Type} {l : List α} {b : β} {f : α -> β -> Sem (ForInStep β)} {Q : β -> Shared -> Prop} {s : Shared} (hl : l = []) (x : Q b s) : wpAny M A (forIn l b f) Q E s := by subst hl; exact w2z x
theorem ql5 {β : Type} {l r : List α} {v : α} {b : β} {f : α -> β -> Sem (ForInStep β)} {Q : β -> Shared -> Prop} {s : Shared} (hl : l = v :: r) (x : wpAny M A (f v b) (fun y s' => match y with | .done b => Q b s' | .yield b => wpAny M A (forIn r b f) Q E s') E s) : wpAny M A (forIn l b f) Q E s := by
 subst hl
 rw [List.forIn_cons]
 refine w0z (w3z x (fun y s' q => ?_) fun _ _ e => e)
 induction y with
 | done b => exact w2z q
 | yield b => exact q
theorem zm2 {y : Str} {Q : VP} (x : Q (.str y t) ⟨h, g, d, t + 1, os⟩) : wpAny M A (mkText y) Q E ⟨h, g, d, t, os⟩ := wpAny_mkText x
end
section
variable {prog : Program} {w : World} {A : Around} {E : VP} {U h : Heap} {g : Array GenState} {d : Drawn} {t : Tok} {os : OsState} {chg news : List (Addr × Obj)}
end
end
section
open PySem.W.X
theorem c_tup : isSubtype (.type "tuple") (.type "tuple") = pure true := by rw [isSubtype_type]; kernel_rfl
theorem zs5 : isSubtype (.type "type") (.type "type") = pure true := by rw [isSubtype_type]; kernel_rfl
theorem xm1 : typeOf (.type "object") = pure (.type "type") := by kernel_rfl
end
section
open PySem.W.X
noncomputable def clsO (ns : Addr) (mro : List Value) (hd : Bool) (sn : List Str) (sl : Array (Option Value)) : Obj := ⟨.type "type", none, .cls ⟨"K", [.type "object"], mro, ns, "cmp_to_key.<locals>.K", hd, sn, [], false, none, false⟩, sl⟩
end
section
open PySem.W.X
theorem zj8 {M : Model} {A : Around} {E : VP} {Q : Bool -> Shared -> Prop} {s : Shared} {C ns : Addr} {sl : Array (Option Value)} (hC : s.heap.get? C = some (clsO ns [.ref C, .type "object"] false ["obj"] sl)) (x : Q true s) : wpAny M A (isSubtype (.ref C) (.ref C)) Q E s := by
 unfold isSubtype mroOf classData
 refine w0z (w0z (w0z (wpAny_load hC (w2z (w2z ?_)))))
 skip
 refine wpAny_ite_false (by rfl) (w2z ?_)
 rw [show ([Value.ref C, Value.type "object"].contains (.ref C)) = true from by simp]
 exact x
theorem zv5 {prog : Program} {w : World} {A : Around} {s : Shared} {Q : VP} {E : VP} {C ns : Addr} {sl : Array (Option Value)} (hg : s.gens = #[])
 (hC : s.heap.get? C = some (clsO ns [.ref C, .type "object"] false ["obj"] sl))
 (hQ : ∀ S h' tk, (∀ b o, s.heap.get? b = some o -> h'.get? b = some o) -> h'.get? S = some ⟨.type "super", none, .fields #[.ref C, .ref C, .ref C], #[]⟩ -> Q (.ref S) { s with heap := h', gens := #[], toks := tk }) :
 wpAny (model prog w) A (call (.type "super") [.ref C, .ref C]) Q E s := by
 obtain ⟨h, g, d, t, os⟩ := s
 obtain rfl : g = #[] := hg
 refine ks_callType_codesW (Q₁ := fun obj s₁ => obj = .ref h.objs.size /\ s₁ = ⟨h.push { cls := .type "super", data := .fields #[.none, .none, .none] }, #[], d, t, os⟩) F.ks_called_super (ks_wpAny_checkTypeCall_super hC rfl) F.ks_entry_super_init (ks_code_super_new _ _ ⟨rfl, rfl⟩) fun obj s₁ h₁ => ?_
 obtain ⟨rfl, rfl⟩ := h₁
 have up : ∀ y o, h.get? y = some o -> (h.push { cls := .type "super", data := .fields #[.none, .none, .none] }).get? y = some o := fun y o e => w6z _ e
 have hso : (h.push { cls := .type "super", data := .fields #[.none, .none, .none] }).get? h.objs.size = some { cls := .type "super", dict := none, data := .fields #[.none, .none, .none], slots := #[] } := Heap.get?_push_at rfl rfl
 refine ⟨⟨_, hso, rfl⟩, F.ks_initArgs_super _ _ _, ?_⟩
 generalize h.push { cls := .type "super", data := .fields #[.none, .none, .none] } = h1 at up hso ⊢
 unfold Builtin.«super.__init__» noKeywords
 repeat (first | (with_reducible refine ks_wpAny_isType_cls (up _ _ hC) rfl ?_) | (with_reducible refine zj8 (up _ _ hC) ?_) | (with_reducible refine ks_wpAny_super_set3 hso ?_) | wp_step)
 refine fun h' e k => ⟨rfl, ?_⟩
 exact hQ _ h' t (fun y o ey => k y o (Nat.ne_of_lt (Heap.lt_size ey)) (up y o ey)) e
end
section
open PySem.W.X
theorem xq0 {M : Model} {A : Around} {E : VP} {s : Shared} {what how : String} {C : Addr} {oS : Obj} {v : Value} {Q : Unit -> Shared -> Prop} (hv : v = .ref C) (hs : s.heap.get? cStatics = some oS) (he : nsLook "thirdparty.any" oS = pure none) (x : Q () s) : wpAny M A (notOfAnOpaqueClass what how v) Q E s := by
 subst hv
 obtain ⟨h, g, d, t, os⟩ := s
 have e : wpAny M A (opaqueClassAbove (.ref C)) (fun r s' => r = none /\ s' = ⟨h, g, d, t, os⟩) E ⟨h, g, d, t, os⟩ := by
  unfold opaqueClassAbove anyOpaqueLoaded nsGet
  refine w0z (w0z (w0z (wpAny_loadPart hs ?_)))
  rw [he]
  refine w2z (w2z ?_)
  exact w2z ⟨rfl, rfl⟩
 unfold notOfAnOpaqueClass
 refine w0z (w3z e (fun r s' q => ?_) fun _ _ z => z)
 obtain ⟨rfl, rfl⟩ := q
 exact w2z x
theorem zp3 : builtinOwn "object" "__init_subclass__" = some (.builtin "object.__init_subclass__") := by kernel_rfl
theorem c_cm : typeOf (.builtin "object.__init_subclass__") = pure (.type "classmethod_descriptor") := by kernel_rfl
theorem c_cmg : typeLookup (.type "classmethod_descriptor") "__get__" = pure (some (.builtin "classmethod_descriptor.__get__")) := by rw [typeLookup_type, builtinLookup_eq_fast]; kernel_rfl
theorem p5_ga {w : World} {A : Around} {E : VP} {Q : Fin -> Shared -> Prop} {h : Heap} {g : Array GenState} {d : Drawn} {t : Tok} {os : OsState}
 {S C ns : Addr} {sl : Array (Option Value)} {oS : Obj} {tk : Tok}
 (hS : h.get? S = some ⟨.type "super", none, .fields #[.ref C, .ref C, .ref C], #[]⟩) (hC : h.get? C = some (clsO ns [.ref C, .type "object"] false ["obj"] sl)) (hs : h.get? cStatics = some oS) (he : nsLook "thirdparty.any" oS = pure none)
 (x : wpAny (model PySem.Challenge.rw_ik0059_01.prog w) A (call (.builtin "classmethod_descriptor.__get__") [.builtin "object.__init_subclass__", .none, .ref C]) (fun v s => Q (.done (.ret v)) s) E ⟨h, g, d, t, os⟩) :
 wpAny (model PySem.Challenge.rw_ik0059_01.prog w) A (Builtin.«super.__getattribute__» ⟨[.ref S, .str "__init_subclass__" tk], []⟩) Q E ⟨h, g, d, t, os⟩ := by
 have hl : List.drop 1 (List.dropWhile (fun x => x != Value.ref C) [Value.ref C, Value.type "object"]) = [.type "object"] := by simp
 unfold Builtin.«super.__getattribute__»
 repeat (first
  | ((with_reducible first | refine wpAny_loadPart' (o := ?_) ?_ ?_ | refine wpAny_load' (o := ?_) ?_ ?_); rotate_left; assumption)
  | ((with_reducible refine xq0 (C := C) ?hvv hs he ?xx); (case hvv => rfl))
  | (with_reducible refine w1z c_cm ?_)
  | (with_reducible refine w1z c_cmg ?_)
  | ((with_reducible refine ql5 (v := .type "object") (r := []) ?hlf ?xf); (case hlf => exact hl))
  | (rw [zp3])
  | (with_reducible first | refine w2z ?_ | refine w0z ?_ | refine w8z ?_) | ((with_reducible refine wpAny_ite_false ?_ ?_); rfl) | wp_delta)
 show wpAny _ _ (call _ [_, (if ((Value.ref C) == .ref C) = true then Value.none else .ref C), .ref C]) _ _ _
 rw [if_pos (by simp)]
 refine w3z x (fun v s' q => ?_) (fun _ _ z => z)
 repeat (first | (with_reducible first | refine w2z ?_ | refine w0z ?_) | wp_delta)
 exact q
end
section
open PySem.W.X
section
set_option hygiene false in
local macro_rules | `(tactic| x_close) => `(tactic| (refine hQ _ _ _ (qa5 (by assumption)) ((Mem.nw (by assumption)) _ (List.Mem.head _)).1))
theorem k_get {prog : Program} {w : World} {s : Shared} {fr : Option (List Env)} {gu : Option (List Code)} {Q : VP} {E : VP} {C ns : Addr} {sl : Array (Option Value)} (hg : s.gens = #[])
 (hC : s.heap.get? C = some ⟨.type "type", none, .cls ⟨"K", [.type "object"], [.ref C, .type "object"], ns, "cmp_to_key.<locals>.K", false, ["obj"], [], false, none, false⟩, sl⟩)
 (hQ : ∀ F h' tk, (∀ b o, s.heap.get? b = some o -> h'.get? b = some o) -> h'.get? F = some ⟨.type "builtin_function_or_method", none, .fields #[.builtin "object.__init_subclass__", .ref C], #[]⟩ -> Q (.ref F) { s with heap := h', gens := #[], toks := tk }) :
 wpAny (model prog w) (AX fr gu) (call (.builtin "classmethod_descriptor.__get__") [.builtin "object.__init_subclass__", .none, .ref C]) Q E s := by
 open PySem.W.X in
 x_run
end
section
set_option hygiene false in
local macro_rules | `(tactic| x_close) => `(tactic| (refine hQ _ _ (fun _ _ e => e)))
end
end
section
open PySem.W.X
theorem zp4 : Bind.madeBy (.type "type") = pure (some "type.__new__") := by kernel_rfl
theorem jf1 : mroOf (.type "type") = pure [.type "type", .type "object"] := by kernel_rfl
theorem zp5 : typeLookup (.type "type") "__init__" = pure (some (.builtin "type.__init__")) := by rw [typeLookup_type, builtinLookup_eq_fast]; kernel_rfl
theorem c_ctc (a b c : Value) : checkTypeCall "type" ⟨[a, b, c], []⟩ = pure () := by kernel_rfl
theorem c_cbc (b : Str) (t : Tok) (c d : Addr) : checkBuiltinCall "type.__new__" ⟨[.type "type", .str b t, .ref c, .ref d], []⟩ = pure () := by kernel_rfl
theorem xz8 : entryFor table "type.__new__" = some Builtin.«type.__new__» := entryFor_of_tree (by kernel_rfl)
theorem xz7 : plainId "type.__new__" = true := by decide +kernel
theorem xm0 : Slot "type" "__init__" "type.__init__" := .of (owner := "type") (n := "__init__") (by rw [typeLookup_type, builtinLookup_eq_fast]; kernel_rfl) (by decide +kernel) (by decide +kernel) (by decide +kernel)
 (by first | exact .inl (by decide +kernel) | exact .inr (by decide +kernel)) (by rw [isSubtype_type]; kernel_rfl)
theorem zi1 (o a b c : Value) : argsOk "type.__init__" ⟨[o, a, b, c], []⟩ := by unfold argsOk; kernel_rfl
theorem xz9 : entryFor table "type.__init__" = some Builtin.«type.__init__» := entryFor_of_tree (by kernel_rfl)
theorem p3 {w : World} {A : Around} {E : VP} {Q : VP} {s : Shared} {B NS : Addr} {tk : Tok}
 (x : wpAny (model PySem.Challenge.rw_ik0059_01.prog w) A.in1.in1 (Builtin.«type.__new__» ⟨[.type "type", .str "K" tk, .ref B, .ref NS], []⟩) (fun fin s' => ∃ C o, fin = .done (.ret (.ref C)) /\ s'.heap.get? C = some o /\ o.cls = .type "type" /\ 
  Q (.ref C) s') (fun _ _ => False) s) :
 wpAny (model PySem.Challenge.rw_ik0059_01.prog w) A (call (.type "type") [.str "K" tk, .ref B, .ref NS]) Q E s := by
 refine wpAny_call (codeAny_of_tree ?_)
 show wpAny _ _ (callAny (.type "type") _) _ _ _
 refine w2z ⟨Code.quiet_builtin _ (by decide +kernel), codeAny_builtin F.entry_type_call ?_⟩
 rw [Around.under_plain (weight_type_call_type "type" _ []) rfl]
 unfold Builtin.«type.__call__»
 repeat (first | (with_reducible refine w1z (c_ctc _ _ _) ?_) | (with_reducible refine w1z jf1 ?_) | (with_reducible refine w1z zp4 ?_) | (with_reducible first | refine w2z ?_ | refine w0z ?_ | refine w8z ?_) | ((with_reducible refine wpAny_ite_true ?_ ?_); rfl) | ((with_reducible refine wpAny_ite_false ?_ ?_); rfl))
 refine wpAny_call (codeAny_call_builtin xz7 xz8 (w1z (c_cbc _ _ _ _) (w3z x (fun fin s' q => ?_) fun _ _ z => z.elim)))
 obtain ⟨C, o, rfl, hC, hc, q⟩ := q
 have hT : s'.TypeIs (.ref C) "type" := ⟨_, hC, hc⟩
 show wpAny _ _ _ _ _ _
 repeat (first | (with_reducible refine wpAny_typeOf hT ?_) | (with_reducible refine w1z zs5 ?_) | (with_reducible refine w1z zp5 ?_) | (with_reducible first | refine w0z ?_ | refine w8z ?_) | ((with_reducible refine wpAny_ite_false ?_ ?_); rfl) | wp_delta)
 refine w1z (xm0.bind _) ?_
 repeat (with_reducible refine w0z ?_)
 show wpAny _ _ (call (.builtin "type.__init__") [.ref C, .str "K" tk, .ref B, .ref NS]) _ _ _
 refine wpAny_call_entry xm0 hT xz9 ?_ (zi1 _ _ _ _)
 unfold Builtin.«type.__init__»
 repeat (first | (with_reducible refine ⟨_, rfl, ?_⟩) | (with_reducible refine w2z ?_) | ((with_reducible refine wpAny_ite_false ?_ ?_); rfl) | wp_delta)
 exact q
end
section
open PySem.W.X
noncomputable def jm2 (tm zf tf tq : Nat) (st sl : Addr) (F : Nat -> Addr) : List (Str × Value) := [("__module__", .str "cpy313.functools" tm), ("__qualname__", .str "cmp_to_key.<locals>.K" tq), ("__firstlineno__", .int zf tf), ("__slots__", .ref sl), ("__init__", .ref (F 0)), ("__lt__", .ref (F 1)), ("__gt__", .ref (F 2)), ("__eq__", .ref (F 3)), ("__le__", .ref (F 4)), ("__ge__", .ref (F 5)), ("__hash__", .none), ("__static_attributes__", .ref st)]
noncomputable def hz (w : World) (name : Str) : Int := if name.cps.isEmpty = true then 0 else reduceHash (w.params.strHash name.cps)
noncomputable def zr1 (w : World) (f : Nat -> Int × Tok) (t : Tok) (i : Nat) : Int × Tok := bif Nat.beq i 0 then f 0 else bif Nat.ble i 10 then f (i + 1) else bif Nat.beq i 11 then (hz w "obj", t + 1) else (hz w "__doc__", t + 2)
theorem ji9 {U h : Heap} {ns : Prs} (l : Prs) (D : Mem U h [] ns) (e : ns = l) : Mem U h [] l := e ▸ D
theorem j3q {h : Heap} {a : Addr} {o : Obj} {l : Prs} (x : h.get? a = some o) (y : ∀ p ∈ l, h.get? p.1 = some p.2) : ∀ p ∈ (a, o) :: l, h.get? p.1 = some p.2
 | _, .head _ => x
 | _, .tail _ m => y _ m
theorem xt0 {h : Heap} : ∀ p ∈ ([] : Prs), h.get? p.1 = some p.2 := fun _ h => nomatch h
noncomputable def jh2 (f : Nat -> Int × Tok) (tm zf tf tq to n m : Nat) (st sl B : Addr) (fa : Nat -> Addr) (D : Nat -> Data) (L : Nat -> Array (Option Value)) (oS : Obj) : Prs :=
 [(m + 2, nsO f (jm2 tm zf tf tq st sl fa) n), (B, ⟨.type "tuple", none, .seq #[.type "object"] 0, #[]⟩), (sl, ⟨.type "list", none, .seq #[.str "obj" to] 0, #[]⟩), (st, ⟨.type "tuple", none, D 6, L 6⟩), (fa 0, ⟨.type "function", none, D 0, L 0⟩), (fa 1, ⟨.type "function", none, D 1, L 1⟩), (fa 2, ⟨.type "function", none, D 2, L 2⟩), (fa 3, ⟨.type "function", none, D 3, L 3⟩), (fa 4, ⟨.type "function", none, D 4, L 4⟩), (fa 5, ⟨.type "function", none, D 5, L 5⟩), (cStatics, oS)]
noncomputable abbrev supO (C : Addr) : Obj := ⟨.type "super", none, .fields #[.ref C, .ref C, .ref C], #[]⟩
theorem p4 {w : World} {A : Around} {E : VP} {Q : Fin -> Shared -> Prop} {h : Heap} {d : Drawn} {t : Tok} {os : OsState} 
 {f : Nat -> Int × Tok} {tm zf tf tq to n m tk : Nat} {st sl B : Addr} {fa : Nat -> Addr} {D' : Nat -> Data} {L : Nat -> Array (Option Value)} {oS : Obj} {args : Args} {olds : Prs} (hd : A.depth <= 880) (hu : A.units <= 8000) (hh : A.handled = none) (hs : h.get? cStatics = some oS) (he : nsLook "thirdparty.any" oS = pure none) (ha : args = ⟨[.type "type", .str "K" tk, .ref B, .ref (m + 2)], []⟩)
 (hol : olds = jh2 f tm zf tf tq to n m st sl B fa D' L oS) (ho : ∀ p ∈ olds, h.get? p.1 = some p.2)
 (x : ∀ C ns md h' tk', (∀ b o, h.get? b = some o -> h'.get? b = some o) -> (∀ p ∈ [(md, kMd C t), (C, kCls C ns B tk tq (some (.bool false))), (ns, nsO (zr1 w f t) (kL (.str "cpy313.functools" tm) (.int zf tf) (.ref sl) (.ref st) md fa) 3)], h'.get? p.1 = some p.2 /\ h.get? p.1 = none) -> Q (.done (.ret (.ref C))) ⟨h', #[], d, tk', os⟩) :
 wpAny (model PySem.Challenge.rw_ik0059_01.prog w) A (Builtin.«type.__new__» args) Q E ⟨h, #[], d, t, os⟩ := by
 apply zi4
 . intro args φ hφ
   unfold Builtin.«type.__new__»
   rw [hφ]
 subst ha hol
 refine zt6 (fun as => List.filter (fun x => x != Value.ref (as.getD 2 0)) [Value.ref (as.getD 2 0), .type "object"]) (fun _ => [.type "object"]) (fun as => by simp) _ [] 3 0 24 2700653705722347892227626639615602755 21 ho (Mem.start h) (by kernel_rfl) fun a0 a1 a2 h1 D1 => ?_
 refine zc1 _ [a0, a1, a2] 1 0 38 599667165440853273282121105731016885271991670794664034564 32 ho D1 (by kernel_rfl) fun md h2 D2 => ?_
 replace D2 := ji9 [(md, kMd a2 t), (a2, kCls a2 a1 B tk tq (some (.bool false))), (a1, nsO (zr1 w f t) (kL (.str "cpy313.functools" tm) (.int zf tf) (.ref sl) (.ref st) md fa) 3), (a0, xl8 #[.str "obj" to])] D2 (by kernel_rfl)
 refine zi6 (f := .type "super") (pos := [.ref a2, .ref a2]) (kw := []) (by kernel_rfl) ?_
 have hC := (D2.nw (a2, _) (List.Mem.tail _ (List.Mem.head _))).1
 have hs' := D2.old _ _ hs (by rw [show away [] cStatics = true from rfl, Bool.or_true])
 refine zv5 rfl hC (fun S h3 tk1 k3 hS => ?_)
 have hC3 := k3 _ _ hC
 have hs3 := k3 _ _ hs'
 refine zc1 [(S, supO a2)] [] 0 0 2 1 1 (j3q hS xt0) (Mem.start h3) (by kernel_rfl) fun h4 D4 => ?_
 have k4 := qa5 D4
 refine zi6 (f := .builtin "super.__getattribute__") (pos := [.ref S, .str "__init_subclass__" tk1]) (kw := []) (by kernel_rfl) ?_
 refine wpAny_call_entry F.ks_slot_super_ga ⟨_, k4 _ _ hS, rfl⟩ F.ks_entry_super_ga (p5_ga (k4 _ _ hS) (k4 _ _ hC3) (k4 _ _ hs3) he ?_) (F.ks_gaArgs_super _ _)
 refine xi6 (by show A.depth <= 900; exact Nat.le_trans (by assumption) (by decide)) (by show A.units + 1 <= 9000; exact Nat.lt_of_le_of_lt (by assumption) (by decide)) hh (k_get rfl (k4 _ _ hC3) (fun F5 h5 tk2 k5 hF => ⟨_, rfl, ?_⟩))
 refine xo8 [(S, supO a2), (F5, ⟨.type "builtin_function_or_method", none, .fields #[.builtin "object.__init_subclass__", .ref a2], #[]⟩), (a2, kCls a2 a1 B tk tq (some (.bool false)))] [] 0 1 2 85217603 5 (fun _ => .done (.ret (.ref a2))) (fun _ => []) tk2 (j3q (k5 _ _ (k4 _ _ hS)) (j3q hF (j3q (k5 _ _ (k4 _ _ hC3)) xt0))) (Mem.start h5) (by kernel_rfl) fun h6 D6 => ?_
 have up : ∀ b o, h2.get? b = some o -> h6.get? b = some o := fun b o e => qa5 D6 _ _ (k5 _ _ (k4 _ _ (k3 _ _ e)))
 exact x a2 a1 md h6 tk2 (fun b o e => up _ _ (qa5 D2 _ _ e)) fun p hp => have z := D2.nw p (List.mem_append_left [(a0, xl8 #[.str "obj" to])] hp); ⟨up _ _ z.1, z.2⟩
end
section
open PySem.W.X
section
set_option hygiene false in
local macro_rules | `(tactic| x_close) => `(tactic| (refine hQ _ _ _ (qa5 (by assumption)) (((Mem.nw (by assumption)) _ (List.Mem.head _)).1.trans (congrArg some ?_)); kernel_rfl))
theorem k_gat {prog : Program} {w : World} {s : Shared} {fr : Option (List Env)} {gu : Option (List Code)} {Q : VP} {E : VP} {tk : Tok} (hg : s.gens = #[])
 (hQ : ∀ F h' tk', (∀ b o, s.heap.get? b = some o -> h'.get? b = some o) -> h'.get? F = some ⟨.type "builtin_function_or_method", none, .fields #[.builtin "type.__prepare__", .type "type"], #[]⟩ -> Q (.ref F) { s with heap := h', gens := #[], toks := tk' }) :
 wpAny (model prog w) (AX fr gu) (call (.builtin "type.__getattribute__") [.type "type", .str "__prepare__" tk]) Q E s := by
 open PySem.W.X in
 x_run
end
section
set_option hygiene false in
local macro_rules | `(tactic| x_close) => `(tactic| (refine hQ _ _ _ (qa5 (by assumption)) ((Mem.nw (by assumption)) _ (List.Mem.head _)).2 ((Mem.nw (by assumption)) _ (List.Mem.head _)).1))
theorem jj4 {prog : Program} {w : World} {s : Shared} {fr : Option (List Env)} {gu : Option (List Code)} {Q : VP} {E : VP} {tk : Tok} {F B : Addr} (hg : s.gens = #[])
 (hF : s.heap.get? F = some ⟨.type "builtin_function_or_method", none, .fields #[.builtin "type.__prepare__", .type "type"], #[]⟩) (hB : s.heap.get? B = some ⟨.type "tuple", none, .seq #[.type "object"] 0, #[]⟩)
 (hQ : ∀ NS h' tk', (∀ b o, s.heap.get? b = some o -> h'.get? b = some o) -> s.heap.get? NS = none -> h'.get? NS = some ⟨.type "dict", none, .dict #[] 0, #[]⟩ -> Q (.ref NS) { s with heap := h', gens := #[], toks := tk' }) :
 wpAny (model prog w) (AX fr gu) (call (.ref F) [.str "K" tk, .ref B]) Q E s := by
 open PySem.W.X in
 x_run
end
theorem jj7 {prog : Program} {w : World} {h : Heap} {d : Drawn} {t : Tok} {os : OsState} {fr : Option (List Env)} {gu : Option (List Code)} {Q : VP} {E : VP} {tk : Tok}
 (hQ : ∀ F h' tk', (∀ b o, h.get? b = some o -> h'.get? b = some o) -> h'.get? F = some ⟨.type "builtin_function_or_method", none, .fields #[.builtin "type.__prepare__", .type "type"], #[]⟩ -> Q (.ref F) ⟨h', #[], d, tk', os⟩) :
 wpAny (model prog w) (AX fr gu) (call (.builtin "type.__getattribute__") [.type "type", .str "__prepare__" tk]) Q E ⟨h, #[], d, t, os⟩ := k_gat rfl hQ
theorem zv6 {prog : Program} {w : World} {h : Heap} {d : Drawn} {t : Tok} {os : OsState} {fr : Option (List Env)} {gu : Option (List Code)} {Q : VP} {E : VP} {tk : Tok} {F B : Addr}
 (hF : h.get? F = some ⟨.type "builtin_function_or_method", none, .fields #[.builtin "type.__prepare__", .type "type"], #[]⟩) (hB : h.get? B = some ⟨.type "tuple", none, .seq #[.type "object"] 0, #[]⟩)
 (hQ : ∀ NS h' tk', (∀ b o, h.get? b = some o -> h'.get? b = some o) -> h.get? NS = none -> h'.get? NS = some ⟨.type "dict", none, .dict #[] 0, #[]⟩ -> Q (.ref NS) ⟨h', #[], d, tk', os⟩) :
 wpAny (model prog w) (AX fr gu) (call (.ref F) [.str "K" tk, .ref B]) Q E ⟨h, #[], d, t, os⟩ := jj4 rfl hF hB hQ
end
section
open PySem.W.X
theorem xk1 {α : Type} {M : Model} {A : Around} {E : VP} {s : Shared} {m : Sem α} {Q : Except Value α -> Shared -> Prop} (h : wpAny M A m (fun a => Q (.ok a)) (fun e => Q (.error e)) s) : wpAny M A (Sem.attempt m) Q E s := wpAny_attempt h
theorem xz6 : typeOf (.type "type") = pure (.type "type") := by kernel_rfl
theorem jl9 : typeLookup (.type "type") "__getattribute__" = pure (some (.builtin "type.__getattribute__")) := by rw [typeLookup_type, builtinLookup_eq_fast]; kernel_rfl
noncomputable def xq4 (P : PySem.Params) : Scope := match (KG P).lookup 42 with
 | some ⟨_, _, .func fd, _⟩ => fd.scope
 | _ => ⟨.function, [], false, false, []⟩
noncomputable abbrev fEnv (P : PySem.Params) (L cell : Addr) (bt : Addr) : Env := ⟨xq4 P, L, mainGlobals, [("mycmp", cell)], "cmp_to_key.<locals>.", some 42, .ref 41, some L, bt⟩
theorem zp6 : bindSpecial (.builtin "type.__getattribute__") (.type "type") = pure (.builtin "type.__getattribute__", [.type "type"]) := by kernel_rfl
theorem zi0 : typeLookup (.type "dict") "__getitem__" = pure (some (.builtin "dict.__getitem__")) := by rw [typeLookup_type, builtinLookup_eq_fast]; kernel_rfl
theorem PsD.stays {h h' : Heap} {NS KC kt KC' kt' : Addr} {l : Nl} {ps qs : Array Value} {ok : Option KD} {mg : Str -> Option Value} (x : PsD h ok KC' kt' qs) (C : CB h NS KC kt l ps mg) (K : Kept NS kt h h') : PsD h' ok KC' kt' qs := x.keeps fun b o e q => C.stays K e (by rw [q]; decide) (by rw [q]; decide)
theorem ze2 {M : Model} {A : Around} {E : VP} {s : Shared} {x : Str} {Q : List Value -> Shared -> Prop} (h : Q [.str x s.toks] { s with toks := s.toks + 1 }) : wpAny M A (List.mapM mkText [x]) Q E s := fun _ _ _ => h
structure KObj (P : PySem.Params) (h0 h : Heap) (cell lam C : Addr) (kd : KD) (lt : Addr) (F : Prs) : Prop where
 set : KSet P cell lam C lt F
 all : ∀ p ∈ F, h.get? p.1 = some p.2
 nw : ∀ p ∈ F, h0.get? p.1 = none \/ p.1 ∈ kd.all /\ p.2.cls = .type "code" \/ p.1 = cell
theorem ex_fn {p : Nat -> Value -> Prop} (x : ∀ j, j < 6 -> ∃ c, p j c) : ∃ f : Nat -> Value, ∀ j, j < 6 -> p j (f j) :=
 ⟨fun j => if h : j < 6 then (x j h).choose else .none, fun j h => by dsimp only; rw [dif_pos h]; exact (x j h).choose_spec⟩
theorem jm0 (P : PySem.Params) (L cell bt : Addr) : closureFor (xk6 P) (fEnv P L cell bt) = pure [(("mycmp" : Str), cell)] := by kernel_rfl
theorem KSd.keeps {h h' : Heap} {ok : Option KD} (x : KSd h ok) (k : ∀ b o, h.get? b = some o -> h'.get? b = some o) : KSd h' ok := by
 induction ok with
 | none => exact k _ _ x
 | some d =>
  obtain ⟨e1, e2, e3, e4, e5⟩ := x
  exact ⟨k _ _ e1, e2.keeps k, k _ _ e3, e4.keeps fun b o e _ => k b o e, e5.keeps fun b o e _ => k b o e⟩
theorem KSd.t37 {h : Heap} {ok : Option KD} (x : KSd h ok) : ∃ vs, h.get? 37 = some (tabObj vs) := by
 induction ok with
 | none => exact ⟨_, x⟩
 | some d => exact ⟨_, x.1⟩
theorem p2 {w : World} {A : Around} {E : VP} {Q : VP} {P : PySem.Params} {L cell bt : Addr} {h : Heap} {d : Drawn} {t : Tok} {os : OsState} (hd : A.depth <= 850) (hu : A.units <= 7000) (hh : A.handled = none) (hmod : ∃ o, h.get? 1 = some o) (hmo0 : ∃ o, h.get? 0 = some o) {lam : Addr} (hcell : h.get? cell = some (zw3 lam)) {ok : Option KD} (hS : KSd h ok) (hC : CodeHd h 41 37) {mg : Str -> Option Value} (hgl : h.Ns mainGlobals mg) (hbm : h.BuiltinsAt mg 37) (hmn : mg "__name__" = some (.str "law_ik0059_01" 419)) (hnl : h.NoLimit) {oS : Obj} (hst0 : h.get? cStatics = some oS) (hno : nsLook "thirdparty.any" oS = pure none)
 (x : ∀ C kd lt F h' tk', (∀ b o, h.get? b = some o -> b ≠ 37 -> h'.get? b = some o) -> KSd h' (some kd) -> (ok = none -> ∀ a ∈ kd.all, h.get? a = none) -> (∀ k, ok = some k -> kd = k) -> KObj P h h' cell lam C kd lt F -> Q (.ref C) ⟨h', #[], d, tk', os⟩) :
 wpAny (model PySem.Challenge.rw_ik0059_01.prog w) A (buildClass "K" "cmp_to_key.<locals>.K" [.type "object"] [] (qz6 P) (xk6 P) ["obj"] 20 (fEnv P L cell bt) ⟨20, 4, 41, 23⟩ none) Q E ⟨h, #[], d, t, os⟩ := by
 have hgl0 := hgl
 obtain ⟨og, esg, epg, eg1, eg2, rg⟩ := hgl0
 obtain ⟨v37, e37⟩ := hS.t37
 obtain ⟨bm, ob, b1, b2, b3, b4, b5, b6, b7, b8⟩ := hbm
 have D := Mem.start h
 unfold buildClass
 repeat (first | (with_reducible refine w0z ?_) | ((with_reducible refine wpAny_ite_false ?_ ?_); rfl) | (with_reducible refine xe2 (by assumption) rfl ?_) | wp_delta)
 intro B h1 D1
 have k1 : ∀ b o, h.get? b = some o -> h1.get? b = some o := qa5 D1
 repeat (first | (with_reducible refine w1z xz6 ?_) | (with_reducible refine w1z jl9 ?_) | (with_reducible refine w1z zp6 ?_) | (with_reducible refine xk1 ?_) | (with_reducible refine wpAny_onRaise ?_) | (with_reducible first | refine w2z ?_ | refine w0z ?_ | refine w8z ?_ | refine zm2 ?_) | ((with_reducible refine wpAny_ite_true ?_ ?_); rfl) | ((with_reducible refine wpAny_ite_false ?_ ?_); rfl) | ((with_reducible refine w1z (t := isSubtype _ _) (a := ?_) ?_ ?_); rotate_left; (first | exact c_tup | exact c_dict | exact zs5)) | (with_reducible refine w1z xm1 ?_) | ((with_reducible refine qw0 ?_ ?_); rfl) | ((with_reducible refine ql5 (v := ?_) (r := ?_) ?_ ?_); rotate_left 2; rfl) | wp_delta)
 refine xi6 (by exact Nat.le_trans (by assumption) (by decide)) (by exact Nat.le_trans (by assumption) (by decide)) hh (jj7 (fun F h2 tk2 k2 hF => ?_))
 repeat (first | (with_reducible refine xk1 ?_) | (with_reducible refine wpAny_onRaise ?_) | (with_reducible first | refine w2z ?_ | refine w0z ?_) | wp_delta)
 obtain ⟨g2, e2⟩ : ∃ x : Nat, x = tk2 := ⟨_, rfl⟩
 have hB := k2 _ _ ((D1.nw _ (List.Mem.head _)).1)
 refine xi6 (by exact Nat.le_trans (by assumption) (by decide)) (by exact Nat.le_trans (by assumption) (by decide)) hh (zv6 hF hB (fun NS h3 tk3 k3 hn hNS => ?_))
 clear D D1
 obtain ⟨m, rfl⟩ : ∃ m, NS = m + 2 := by
  have n : ∀ {a : Addr}, (∃ o, h.get? a = some o) -> NS ≠ a := fun ⟨o, e⟩ z => by
   rw [z, k2 _ _ (k1 _ _ e)] at hn; exact k2q hn
  exact match NS, n hmo0, n hmod with
   | 0, z, _ => absurd rfl z
   | 1, _, z => absurd rfl z
   | m + 2, _, _ => ⟨m, rfl⟩
 have hsys : (m + 2 == sysModules) = false := rfl
 have D3 := Mem.start h3
 have kk : ∀ b o, h.get? b = some o -> h3.get? b = some o := fun b o e => k3 _ _ (k2 _ _ (k1 _ _ e))
 repeat (first | (with_reducible refine xz4 (c := 41) rfl (hC.keeps kk) (hS.keeps kk) ?_) | ((with_reducible refine wpAny_ite_false ?hcc ?xcc); (case hcc => (rw [hsys]; rfl))) | (with_reducible refine w1z zi0 ?_) | (with_reducible first | refine w2z ?_ | refine w0z ?_ | refine w8z ?_) | ((with_reducible refine wpAny_ite_false ?_ ?_); rfl) | ((with_reducible refine xq1 (o := ?_) (by assumption) ?_ ?_ ?_); rotate_left; assumption; rfl) | wp_delta)
 intro KC kt ps h4 tk4 x4 cd4 tb4 r4 q4 qk w4
 have D4 := Mem.start h4
 have nn : ∀ {a : Addr} {o : Obj}, h3.get? a = some o -> o.cls ≠ .none -> h4.get? a = some o := fun {a o} e hc => x4 a o (by
  intro z
  rw [z, kk _ _ e37] at e; obtain rfl := w4z e; exact hc rfl) e
 have hgl4 : h4.Ns mainGlobals mg := ⟨og, esg, epg, x4 _ _ (by decide) (kk _ _ eg1), eg2, rg⟩
 have b5' : h4.get? bm = some ob := x4 _ _ b4 (kk _ _ b5)
 repeat (first | (with_reducible refine wpAny_builtinsFor hgl4 b1 b2 b5' b6 b7 b8 ?_) | (with_reducible refine wpAny_nsGet hgl4 ?_) | (with_reducible refine w0z ?_) | (with_reducible refine xe2 (by assumption) rfl ?_) | wp_delta)
 intro fr h5 D5
 have k5 := qa5 D5
 refine w0z (w1z (jm0 P L cell bt) ?_)
 dsimp only
 generalize hce : Env.mk (xk6 P) (m + 2) _ _ _ _ _ _ _ = cenv
 obtain rfl : kEnv P (m + 2) KC cell none (some fr) builtinsNs = cenv := Eq.trans (by kernel_rfl) hce
 clear hce
 have hne : ∀ {a : Addr} {o : Obj}, h4.get? a = some o -> o.cls ≠ .none -> a ≠ kt := fun {a o} e hc z => by
  rw [z, tb4] at e; obtain rfl := w4z e; exact hc rfl
 have nsne : mainGlobals ≠ m + 2 := by
  intro z
  rw [<- z, k2 _ _ (k1 _ _ eg1)] at hn; exact k2q hn
 have glne : mainGlobals ≠ kt := fun z => by
  have e1 := x4 _ _ (by decide) (kk _ _ eg1)
  rw [z, tb4] at e1; obtain rfl := w4z e1; cases eg2
 have C5 : CB h5 (m + 2) KC kt [] ps mg := ⟨⟨fun _ => (0, 0), k5 _ _ (nn hNS (by show Value.type "dict" ≠ _; decide))⟩, k5 _ _ tb4, cd4.keeps k5, r4, hgl4.keeps k5, ⟨bm, ob, b1, b2, b3, hne b5' (by rw [b6]; decide), k5 _ _ b5', b6, b7, b8⟩, hne (nn hNS (by show Value.type "dict" ≠ _; decide)) (by show Value.type "dict" ≠ _; decide), glne, nsne⟩
 have hnl5 : h5.NoLimit := ((hnl.keeps kk).extBut x4 (by decide)).keeps k5
 refine w8z (w0z (wpAny_enterFrame hnl5 (by have : recursionLimit = 1000 := rfl; exact Nat.lt_of_le_of_lt (by assumption) (by decide)) (w0z (wpAny_onRaise ?_))))
 refine w0z (ze4 C5.ns C5.gl hmn ?_)
 refine w0z (qt4 [("__module__", .str "law_ik0059_01" 419)] C5 (by kernel_rfl) rfl (fun f z tk => by kernel_rfl) (fun h6 C6 K6 => ?_))
 refine w0z (wpAny_mkText (w0z (qt4 [("__module__", .str "law_ik0059_01" 419), ("__qualname__", .str "cmp_to_key.<locals>.K" (tk4 + 1))] C6 (by kernel_rfl) rfl (fun f z tk => by kernel_rfl) (fun h7 C7 K7 => ?_))))
 refine w0z (wpAny_mkInt' (w0z (qt4 [("__module__", .str "law_ik0059_01" 419), ("__qualname__", .str "cmp_to_key.<locals>.K" (tk4 + 1)), ("__firstlineno__", .int 20 (tk4 + 1 + 1 + 1))] C7 (by kernel_rfl) rfl (fun f z tk => by kernel_rfl) (fun h8 C8 K8 => ?_))))
 repeat (with_reducible first | refine w2z ?_ | refine w0z ?_)
 refine wpAny_run (codeAny_body (by kernel_rfl) (by kernel_rfl) ?_)
 have K58 := (K6.trans K7).trans K8
 refine zp9 (zf := 20) hmn C8 ((q4.keeps fun b o e _ => k5 _ _ e).stays C5 K58) (fun sl F kd tm to h9 tk9 BE => ?_)
 dsimp only
 refine w0z (wpAny_onRaise ?_)
 refine w0z (ze2 (w0z (wpAny_newTextTuple ?_)))
 obtain ⟨hst, st, eh, es⟩ : ∃ h' st, h' = h9.push ⟨.type "tuple", none, .seq #[.str "obj" tk9] 0, #[]⟩ /\ st = h9.objs.size := ⟨_, _, rfl, rfl⟩
 have k9 : ∀ b o, h9.get? b = some o -> hst.get? b = some o := fun b o e => by rw [eh]; exact w6z _ e
 have ST : hst.get? st = some ⟨.type "tuple", none, .seq #[.str "obj" tk9] 0, #[]⟩ := by rw [eh, es]; exact Heap.get?_push_size _ rfl
 have CA := BE.cb.next (h' := hst) (fun b o _ _ e => k9 b o e) (let ⟨f, z⟩ := BE.cb.ns; ⟨f, k9 _ _ z⟩) (k9 _ _ BE.cb.tab) BE.cb.tr
 dsimp only
 rw [<- eh, <- es]
 clear eh es
 refine w0z (qt4 (s := ⟨hst, #[], d, tk9 + 1, os⟩) (jm2 tm 20 (tk4 + 1 + 1 + 1) (tk4 + 1) st sl F) CA (by kernel_rfl) rfl (fun f z tk => by kernel_rfl) (fun hA CB10 KA => ?_))
 repeat (first | (with_reducible first | refine w2z ?_ | refine w0z ?_) | ((with_reducible refine wpAny_ite_false ?_ ?_); rfl))
 have kA : Kept (m + 2) kt h5 hA := K58.trans (BE.kp.trans (Kept.trans (fun b o _ _ e => k9 b o e) KA))
 show wpAny _ _ (call (.type "type") [.str "K" t, .ref B, .ref (m + 2)]) _ _ _
 refine p3 ?_
 have kAll : ∀ b o, h.get? b = some o -> b ≠ 37 -> hA.get? b = some o := by
  intro b o e n37
  have e4 := x4 b o n37 (kk _ _ e)
  have nNS : b ≠ m + 2 := by intro z; rw [<- z, k2 _ _ (k1 _ _ e)] at hn; exact k2q hn
  by_cases q : b = kt
  . induction ok with
    | none => have z := (qk rfl).2; rw [<- q, kk _ _ e] at z; exact k2q z
    | some k =>
     have e3 := hS.2.2.1
     rw [<- q4.2.1, <- q, e] at e3
     rw [q, e3, CB10.tab, BE.same k rfl]
  . exact kA b o nNS q (k5 _ _ e4)
 have kC : ∀ {b : Addr} {o : Obj}, h9.get? b = some o -> o.cls ≠ .type "dict" -> o.cls ≠ .none -> hA.get? b = some o := fun {b o} e h1 h2 => CA.stays KA (k9 _ _ e) h1 h2
 have hBA : hA.get? B = some ⟨.type "tuple", none, .seq #[.type "object"] 0, #[]⟩ := C5.stays kA (k5 _ _ (nn (k3 _ _ hB) (by show Value.type "tuple" ≠ _; decide))) (by show Value.type "tuple" ≠ _; decide) (by show Value.type "tuple" ≠ _; decide)
 have hstA := CA.stays KA ST (by show Value.type "tuple" ≠ _; decide) (by show Value.type "tuple" ≠ _; decide)
 have hslA := kC BE.sl (by show Value.type "list" ≠ _; decide) (by show Value.type "list" ≠ _; decide)
 obtain ⟨ct, fn⟩ := ex_fn BE.fn
 have fnA : ∀ j, j < 6 -> hA.get? (F j) = some (mfn P cell j (kd.c j) (ct j)) := fun j hj => kC (fn j hj).1 (by show Value.type "function" ≠ _; decide) (by show Value.type "function" ≠ _; decide)
 have cdA : ∀ {c : Addr} {q : Str}, v2q h9 c q -> v2q hA c q := fun O => O.keeps fun b o e q => kC e (by rw [q]; decide) (by rw [q]; decide)
 obtain ⟨f, hNSA⟩ := CB10.ns
 have w37 : hA.get? 37 = some (tabObj #[.int 20 0, .int 4 0, .ref KC]) := by
  refine kA _ _ ?_ ?_ (k5 _ _ w4)
  . rintro z; rw [<- z] at hNS
    have := nn hNS (by show Value.type "dict" ≠ _; decide)
    rw [w4] at this; cases this
  . intro z
    rw [<- z, w4] at tb4
    have t4' := Obj.mk.inj (w4z tb4)
    have t5' := Data.fields.inj t4'.2.2.1
    induction ok with
    | none =>
     obtain rfl : ps = #[] := q4
     exact absurd (congrArg Array.size t5') (by show ¬ (3 = 0); decide)
    | some k =>
     obtain ⟨-, -, rfl, -⟩ := q4
     exact absurd (congrArg Array.size t5') (by show ¬ (3 = 18); decide)
 refine p4 (A := A.in1.in1) (f := f) (fa := F) (D' := fun j => bif Nat.beq j 6 then .seq #[.str "obj" tk9] 0 else (mfn P cell j (kd.c j) (ct j)).data) (L := fun _ => #[]) (oS := oS) (by show A.depth <= 880; exact Nat.le_trans (by assumption) (by decide)) (by show A.units + 1 + 1 <= 8000; exact Nat.lt_of_le_of_lt (Nat.add_le_add_right (by assumption) _) (by decide)) hh (kAll _ _ hst0 (by decide)) hno rfl rfl
  (j3q hNSA (j3q hBA (j3q hslA (j3q hstA (j3q (fnA 0 (by exact Nat.succ_pos _)) (j3q (fnA 1 (by decide)) (j3q (fnA 2 (by decide)) (j3q (fnA 3 (by decide)) (j3q (fnA 4 (by exact Nat.le_succ _)) (j3q (fnA 5 (by exact Nat.le_refl _)) (j3q (kAll _ _ hst0 (by decide)) xt0))))))))))) (fun C ns md h' tk' g M => ?_)
 have upA : ∀ {c : Addr}, hA.get? c = none -> h.get? c = none := fun {c} z => by
  induction e : h.get? c with
  | none => rfl
  | some o =>
   by_cases n : c = 37
   . rw [n, w37] at z; exact k2q z
   . rw [kAll c o e n] at z; exact k2q z
 have up3 : ∀ {c : Addr}, h8.get? c = none -> h.get? c = none := fun {c} z => by
  have z4 := qn5 k5 (C8.gone K58 z)
  have : h3.get? c = none := by
   induction e : h3.get? c with
   | none => rfl
   | some o =>
    by_cases n : c = 37
    . rw [n, w4] at z4; exact k2q z4
    . rw [x4 c o n e] at z4; exact k2q z4
  exact qn5 kk this
 obtain ⟨d1, s1, a1, q1, r1, c0⟩ := cdA BE.c0
 obtain ⟨d2, s2, a2, q2, r2, c1⟩ := cdA BE.c1
 obtain ⟨m0, n0⟩ := M _ (.head _)
 obtain ⟨m1, n1⟩ := M _ (.tail _ (.head _))
 obtain ⟨m2, n2⟩ := M _ (.tail _ (.tail _ (.head _)))
 have eKC := BE.eKC
 have ekt := BE.ekt
 subst eKC ekt
 have f0 := fnA 0 (by exact Nat.succ_pos _)
 rw [(fn 0 (by exact Nat.succ_pos _)).2.2 rfl] at f0
 have f1 : h'.get? (F 1) = some (kLt P cell (kd.c 1) (ct 1)) := g _ _ (fnA 1 (by decide))
 have f0' : h'.get? (F 0) = some (zf0 P (kd.c 0)) := g _ _ f0
 have hce := g _ _ (kAll _ _ hcell (fun z => by rw [z, e37] at hcell; cases hcell))
 dsimp only at m0 m1 m2
 refine ⟨C, _, rfl, m1, rfl, w2z (x C kd (F 1) _ _ _ (fun b o e n => g _ _ (kAll b o e n)) ⟨g _ _ w37, CB10.hd.keeps g, g _ _ CB10.tab, (cdA BE.c0).keeps fun b o e _ => g _ _ e, (cdA BE.c1).keeps fun b o e _ => g _ _ e⟩ (fun hok a ha => ?_) BE.same ⟨⟨ns, B, md, _, _, F, _, _, _, _, _, _, _, _, _, _, _, _, _, _, _, _, _, _, _, rfl, rfl⟩, j3q m1 (j3q m2 (j3q f0' (j3q (g _ _ c0) (j3q m0 (j3q f1 (j3q (g _ _ c1) (j3q hce xt0))))))), ?_⟩)⟩
 . obtain ⟨y1, y2⟩ := qk hok
   obtain ⟨y3, y4⟩ := BE.new hok
   simp only [KD.all, List.mem_cons, List.not_mem_nil, or_false] at ha
   rcases ha with rfl | rfl | rfl | rfl
   . exact qn5 kk y1
   . exact qn5 kk y2
   . exact up3 y3
   . exact up3 y4
 . intro p hp
   simp only [List.mem_cons, List.not_mem_nil, or_false] at hp
   rcases hp with rfl | rfl | rfl | rfl | rfl | rfl | rfl | rfl
   . exact .inl (upA n1)
   . exact .inl (upA n2)
   . exact .inl (up3 (fn 0 (by exact Nat.succ_pos _)).2.1)
   . exact .inr (.inl ⟨by simp [KD.all], rfl⟩)
   . exact .inl (upA n0)
   . exact .inl (up3 (fn 1 (by decide)).2.1)
   . exact .inr (.inl ⟨by simp [KD.all], rfl⟩)
   . exact .inr (.inr rfl)
end
section
open PySem.W.X
theorem KSd.move {h h' : Heap} {ok : Option KD} (x : KSd h ok) (k : ∀ b o, h.get? b = some o -> o.cls ≠ .type "frame" -> h'.get? b = some o) : KSd h' ok := by
 induction ok with
 | none => exact k _ _ x (by show Value.none ≠ _; decide)
 | some d =>
  obtain ⟨e1, ⟨o, vs, file, tf, flags, tg, inF, text, tt, f1, f2, r⟩, e3, e4, e5⟩ := x
  exact ⟨k _ _ e1 (by show Value.none ≠ _; decide), ⟨o, vs, file, tf, flags, tg, inF, text, tt, k _ _ f1 (by rw [f2]; decide), f2, r⟩, k _ _ e3 (by show Value.none ≠ _; decide), e4.keeps fun b o e q => k b o e (by rw [q]; decide), e5.keeps fun b o e q => k b o e (by rw [q]; decide)⟩
theorem KSet.cls {P : PySem.Params} {cell lam C lt : Addr} {F : Prs} (x : KSet P cell lam C lt F) : ∀ p ∈ F, p.2.cls ≠ .type "frame" := by
 obtain ⟨N, bt, md, ci, ltc, fa, f, u1, u2, t13, q1, q2, v0, v1, v2, v10, ctp, a1, a2, d1, d2, s1, s2, r1, r2, -, hK⟩ := x
 intro p hp z
 have y : F.map (fun p => p.2.cls) = [.type "type", .type "dict", .type "function", .type "code", .type "member_descriptor", .type "function", .type "code", .type "cell"] := by rw [hK]; rfl
 have m := List.mem_map_of_mem (f := fun p : Addr × Obj => p.2.cls) hp
 rw [y, z] at m
 exact absurd m (by decide)
theorem KSet.nodict {P : PySem.Params} {cell lam C lt : Addr} {F : Prs} (x : KSet P cell lam C lt F) : ∀ p ∈ F, p.2.cls = .type "code" -> ∀ es n, p.2.data ≠ .dict es n := by
 obtain ⟨N, bt, md, ci, ltc, fa, f, u1, u2, t13, q1, q2, v0, v1, v2, v10, ctp, a1, a2, d1, d2, s1, s2, r1, r2, -, rfl⟩ := x
 intro p hp z es n
 simp only [List.mem_cons, List.not_mem_nil, or_false] at hp
 rcases hp with rfl | rfl | rfl | rfl | rfl | rfl | rfl | rfl <;> first | (intro y; cases y; done) | exact absurd z (by show Value.type "dict" ≠ _; decide)
theorem KObj.move {P : PySem.Params} {h0 h00 h h' : Heap} {cell lam C lt : Addr} {kd : KD} {F : Prs} (x : KObj P h0 h cell lam C kd lt F) (k0 : ∀ a, h0.get? a = none -> h00.get? a = none) (k : ∀ b o, h.get? b = some o -> o.cls ≠ .type "frame" -> h'.get? b = some o) : KObj P h00 h' cell lam C kd lt F :=
 ⟨x.set, fun p hp => k _ _ (x.all p hp) (x.set.cls p hp), fun p hp => (x.nw p hp).imp_left (k0 _)⟩
theorem lk42 (P : PySem.Params) : ∃ o fd, (KG P).lookup 42 = some o /\ o.data = .func fd /\ fd.scope.isCoroutine = false /\ fd.scope.isGenerator = false /\ fd.scope.kind = .function /\ fd.body = .stmts (qt5 P 42) /\ fd.code = .ref 41 /\ (∀ v, bindArgs fd ⟨[v], []⟩ = pure [(("mycmp" : Str), v)]) /\ fd.qualname = "cmp_to_key" /\ fd.globals = mainGlobals /\ fd.closure = [] /\ fd.builtins = builtinsNs /\ fd.scope = xq4 P := ⟨_, _, rfl, rfl, rfl, rfl, rfl, rfl, rfl, fun v => by kernel_rfl, rfl, rfl, rfl, rfl, rfl⟩
theorem lk0 (P : PySem.Params) : ∃ o, (KG P).lookup builtinsNs = some o /\ nsLook "__build_class__" o = pure (some (.builtin "__build_class__")) /\ nsLook "object" o = pure (some (.type "object")) := ⟨_, rfl, by kernel_rfl, by kernel_rfl⟩
theorem lkS (P : PySem.Params) : ∃ o, (KG P).lookup cStatics = some o /\ nsLook "thirdparty.any" o = pure none := ⟨_, rfl, by kernel_rfl⟩
theorem lkM (P : PySem.Params) : ∃ o, (KG P).lookup sysModules = some o := ⟨_, rfl⟩
theorem xe1 {M : Model} {A : Around} {E : VP} {s : Shared} {a : Addr} {name : Str} {o : Obj} {r : Option Value} {Q : Option Value -> Shared -> Prop} (ho : s.heap.get? a = some o) (e : nsLook name o = pure r) (x : Q r s) : wpAny M A (nsGet a name) Q E s := by
 unfold nsGet
 refine w0z (wpAny_loadPart ho ?_)
 rw [e]; exact w2z x
theorem zu9 {M : Model} {A : Around} {E : VP} {s : Shared} {qual : Str} {given : List Value} {kw : List (Str × Value)} {fl : Nat} {body : List Stmt} {scope : Scope} {st : List Str} {env : Env} {pos : Pos} {Q : VP} (h1 : qual = "cmp_to_key.<locals>.K") (h2 : given = [.type "object"]) (h3 : kw = []) (h4 : fl = 20)
 (x : wpAny M A (buildClass "K" "cmp_to_key.<locals>.K" [.type "object"] [] body scope st 20 env pos none) Q E s) : wpAny M A (buildClass "K" qual given kw body scope st fl env pos none) Q E s := by
 subst h1 h2 h3 h4; exact x
theorem zm1 {prog : Program} {w : World} {A : Around} {E : VP} {s : Shared} {a : Addr} {name : Str} {v : Value} {o : Obj} {es : Array DictEntry} {n : Nat} {Q : Unit -> Shared -> Prop} (hN : s.heap.get? a = some o) (hd : o.data = .dict es n) (hr : aRefKeyMayBeTheName name es = false)
 (x : ∀ z h', h'.get? a = some (Obj.putName name z (.str name s.toks) v o) -> (∀ b o, b ≠ a -> s.heap.get? b = some o -> h'.get? b = some o) -> Q () { s with heap := h', toks := s.toks + 1 })
 (hf : ∀ z, (Obj.putName name z (.str name s.toks) v o).isFreed = false) : wpAny (model prog w) A (nsSet a name v) Q E s := by
 unfold nsSet strHash
 refine w0z (w0z (wpAny_askSetting (w2z (w0z (wpAny_mkText (w0z (wpAny_loadPart hN ?_)))))))
 rw [hd]
 show wpAny _ _ (if aRefKeyMayBeTheName name es = true then _ else _) _ _ _
 rw [hr]
 refine wpAny_updatePart hN ?_
 exact x _ _ (Heap.get?_update_self _ hN (hf _)) (fun b o hb e => (Heap.SameBut.update ..).extBut b o hb e)
noncomputable def fObj (z : Int) (t : Tok) (C : Addr) : Obj := ⟨.type "frame", none, .dict #[⟨z, .str "K" t, .ref C⟩] 1, #[]⟩
theorem p1 {w : World} {A : Around} {E : VP} {Q : VP} {lam : Addr} {h : Heap} {d : Drawn} {t : Tok} {os : OsState} (hd : A.depth <= 840) (hu : A.units <= 6000) (hh : A.handled = none)
 (KX : (KG w.params).In h) {ok : Option KD} (hS : KSd h ok) (hC : CodeHd h 41 37) (hcr : h.CodeRec (.ref 41) "cmp_to_key") {mg : Str -> Option Value} (hgl : h.Ns mainGlobals mg) (hbm : h.BuiltinsAt mg 37) (hmn : mg "__name__" = some (.str "law_ik0059_01" 419)) (hmo : mg "object" = none) (hnl : h.NoLimit)
 (x : ∀ C cell kd lt F h' tk', (∀ b o, h.get? b = some o -> b ≠ 37 -> h'.get? b = some o) -> KSd h' (some kd) -> (ok = none -> ∀ a ∈ kd.all, h.get? a = none) -> (∀ k, ok = some k -> kd = k) -> h.get? cell = none -> KObj w.params h h' cell lam C kd lt F -> Q (.ref C) ⟨h', #[], d, tk', os⟩) :
 wpAny (model PySem.Challenge.rw_ik0059_01.prog w) A (call (.ref 42) [.ref lam]) Q E ⟨h, #[], d, t, os⟩ := by
 obtain ⟨o, fd, e1, e2, e3, e4, e5, e6, e7, e8, e9, e10, e11, e12, e13⟩ := lk42 w.params
 refine wpAny_call (codeAny_call_function (by have : recursionLimit = 1000 := rfl; exact Nat.lt_of_le_of_lt (by assumption) (by decide)) (KX _ _ e1) e2 e3 e4 e6 (by rw [e7, e9]; exact hcr) ?_)
 refine w1z (e8 _) ?_
 rw [e7, e9, e10, e11, e12, e13]
 have D := Mem.start h
 unfold newFunctionEnv
 repeat (first | (with_reducible refine w0z ?_) | (with_reducible refine xe2 (by assumption) rfl ?_))
 intro L h1 D1
 repeat (first | (with_reducible refine w0z ?_) | ((with_reducible refine wpAny_ite_true ?_ ?_); rfl) | (with_reducible refine xe2 (by assumption) rfl ?_) | ((with_reducible refine ql5 (v := ?_) (r := ?_) ?_ ?_); rotate_left 2; rfl))
 intro cell h2 D2
 repeat (first | (with_reducible first | refine w2z ?_ | refine w0z ?_) | ((with_reducible refine wpAny_ite_false ?_ ?_); rfl) | ((with_reducible refine jj0 (o := ?_) (by assumption) ?_ ?_); rotate_left; exact List.Mem.head _) | ((with_reducible refine qw0 ?_ ?_); rfl) | ((with_reducible refine ql5 (v := ?_) (r := ?_) ?_ ?_); rotate_left 2; rfl) | wp_delta)
 (refine zm0 (o' := zw3 lam) (by assumption) 0 rfl ?_ ?_ ?_; kernel_rfl; rfl; dsimp only [List.set])
 intro h3 D3
 repeat (first | (with_reducible refine w2z ?_) | ((with_reducible refine qw0 ?_ ?_); rfl))
 have k3 := qa5 D3
 have hcell := (D3.nw _ (List.Mem.head _)).1
 have hL := (D3.nw _ (List.Mem.tail _ (List.Mem.head _))).1
 refine ⟨hnl.keeps k3, ?_⟩
 generalize hce : Env.mk (xq4 w.params) L _ _ _ _ _ _ _ = env
 obtain rfl : fEnv w.params L cell builtinsNs = env := Eq.trans (by kernel_rfl) hce
 clear hce D D1 D2
 refine codeAny_func ?_
 refine wpAny_execs_cons ?_
 show wpAny _ _ (exec (.ClassDef "K" [.Name "object" ⟨20, 12, 20, 18⟩] [] (qz6 w.params) [] [] (xk6 w.params) none "K" ["obj"] ⟨20, 4, 41, 23⟩) _) _ _ _
 rw [arm_exec_ClassDef]
 obtain ⟨ob, eb, eb1, eb2⟩ := lk0 w.params
 have hb3 := k3 _ _ (KX _ _ eb)
 have hgl3 := hgl.keeps k3
 repeat (first | (with_reducible refine zu9 ?hq1 ?hg1 ?hk1 ?hf1 ?xb1) | (with_reducible refine xe1 hb3 eb1 ?_) | (with_reducible refine xe1 hb3 eb2 ?_) | (with_reducible refine wpAny_nsGet hgl3 ?_) | (rw [hmo]) | (with_reducible first | refine w2z ?_ | refine w0z ?_ | refine w8z ?_ | refine wpAny_standAt ?_) | ((with_reducible refine wpAny_ite_true ?_ ?_); rfl) | ((with_reducible refine wpAny_ite_false ?_ ?_); rfl) | wp_delta)
 case hq1 => kernel_rfl
 case hg1 => kernel_rfl
 case hk1 => kernel_rfl
 case hf1 => kernel_rfl
 obtain ⟨oS, es1, es2⟩ := lkS w.params
 obtain ⟨oM, em⟩ := lkM w.params
 refine p2 (by show A.depth + 1 <= 850; exact Nat.lt_of_le_of_lt (by assumption) (by decide)) (by show A.units + 3 <= 7000; exact Nat.le_trans (Nat.add_le_add_right (by assumption) _) (by decide)) hh ⟨_, k3 _ _ (KX _ _ em)⟩ ⟨_, hb3⟩ hcell (hS.keeps k3) (hC.keeps k3) hgl3 (hbm.keeps k3) hmn (hnl.keeps k3) (k3 _ _ (KX _ _ es1)) es2 (fun C kd lt F h4 tk4 k4 S4 F4 M4 O4 => ?_)
 have hL4 := k4 _ _ hL (by
  rintro rfl
  obtain ⟨vs, z⟩ := hS.t37
  rw [k3 _ _ z] at hL; cases hL)
 repeat (first | ((with_reducible refine zm1 (o := ⟨.type "frame", none, .dict #[] 0, #[]⟩) (es := #[]) (n := 0) ?hnK ?hdK ?hrK ?xK ?hfK)) | (with_reducible first | refine w2z ?_ | refine w0z ?_ | refine w8z ?_ | refine wpAny_standAt ?_ | refine wpAny_point ?_) | ((with_reducible refine wpAny_ite_false ?_ ?_); rfl) | wp_delta)
 case hnK => exact hL4
 case hdK => rfl
 case hrK => kernel_rfl
 case hfK => (intro z; rfl)
 intro z h5 e5 k5
 have e5' : h5.get? L = some (fObj z tk4 C) := e5.trans (congrArg some (by kernel_rfl))
 have mv : ∀ b o, h4.get? b = some o -> o.cls ≠ .type "frame" -> h5.get? b = some o := fun b o e hc => k5 b o (by
  rintro rfl
  rw [hL4] at e; obtain rfl := w4z e; exact hc rfl) e
 refine wpAny_point (w2z ?_)
 refine wpAny_execs_cons (wpAny_Return_some (wpAny_Name ?_))
 repeat (first | (with_reducible refine xe1 (r := some (.ref C)) e5' (by kernel_rfl) ?_) | (with_reducible first | refine w2z ?_ | refine w0z ?_) | ((with_reducible refine wpAny_ite_false ?_ ?_); rfl) | wp_delta)
 have hLn := (D3.nw _ (List.Mem.tail _ (List.Mem.head _))).2
 exact x C cell kd lt F h5 _ (fun b o e n => k5 b o (by rintro rfl; rw [e] at hLn; exact k2q hLn) (k4 _ _ (k3 _ _ e) n)) (S4.move mv) (fun e a ha => qn5 k3 (F4 e a ha)) M4 (D3.nw _ (List.Mem.head _)).2 (O4.move (fun a z => qn5 k3 z) mv)
end
theorem qs1 : typeLookup (.type "function") ⟨[114, 101, 97, 100].toArray⟩ = pure none := by
 rw [show (⟨[114, 101, 97, 100].toArray⟩ : Str) = "read" by decide +kernel, typeLookup_type, builtinLookup_eq_fast]; kernel_rfl
section
variable {g : Gl} {prog : Program} {cx : Cx} {n : Nat}
theorem zq0 {fd : FuncData} {pr : Arguments} {args : Args} {r : Sem (List (Str × Value))} (h1 : fd.params = pr) (h2 : fd.defaults = .none) (h3 : fd.kwdefaults = .none) (h : ∀ fd : FuncData, bindArgs { fd with params := pr, defaults := .none, kwdefaults := .none } args = r) : bindArgs fd args = r := by
 have : fd = { fd with params := pr, defaults := .none, kwdefaults := .none } := by
  obtain ⟨_, _, _, _, _, _, _, _, _, _, _, _, _, _, _⟩ := fd
  simp_all
 rw [this]; exact h fd
theorem xw9 {fd : FuncData} {p r : Str} {vs : List Value} (hv : [p].length <= vs.length) (h0 : ∀ a, bindArgs fd ⟨[a], []⟩ = (newTuple [] >>= fun t => pure [(p, a), (r, t)])) (h1 : ∀ a b l, bindArgs fd ⟨a :: b :: l, []⟩ = (newTuple (b :: l) >>= fun t => pure [(p, a), (r, t)])) :
 bindArgs fd ⟨vs, []⟩ = (newTuple (vs.drop [p].length) >>= fun t => pure (([p] ++ [r]).zip (vs.take [p].length ++ [t]))) := by
 match vs, hv with
 | [a], _ => exact h0 a
 | a :: b :: l, _ => exact h1 a b l
theorem xw8 {fd : FuncData} {p q r : Str} {vs : List Value} (hv : [p, q].length <= vs.length) (h0 : ∀ a b, bindArgs fd ⟨[a, b], []⟩ = (newTuple [] >>= fun t => pure [(p, a), (q, b), (r, t)])) (h1 : ∀ a b c l, bindArgs fd ⟨a :: b :: c :: l, []⟩ = (newTuple (c :: l) >>= fun t => pure [(p, a), (q, b), (r, t)])) :
 bindArgs fd ⟨vs, []⟩ = (newTuple (vs.drop [p, q].length) >>= fun t => pure (([p, q] ++ [r]).zip (vs.take [p, q].length ++ [t]))) := by
 match vs, hv with
 | [a, b], _ => exact h0 a b
 | a :: b :: c :: l, _ => exact h1 a b c l
 | [a], h => exact absurd h (by simp)
theorem xu0 (G : GOk g) {m k : Nat} {info : FnInfo} {ps nm : List Str} {lp : List (Option Nat)} {fb : AM AV} {e : Expr} {names : List (Str × NameKind)} {more : List (Str × Const)} {cn : List Str} {po ar : List Arg} {va ka : Option Arg} {ko : List Arg} {kd : List (Option Expr)} {df : List Expr}
 (hk : g.fns[k]? = some info) (hsc : info.scope = ⟨.function, names, false, false, more⟩) (hpar : info.params = ⟨po, ar, va, ko, kd, ka, df⟩) (hclo : info.clos = cn) (hbody : info.body = e)
 (hbind : ∀ fd : FuncData, ∀ vs : List Value, vs.length = ps.length -> bindArgs { fd with params := ⟨po, ar, va, ko, kd, ka, df⟩, defaults := .none, kwdefaults := .none } ⟨vs, []⟩ = pure (ps.zip vs))
 (hcell : ∀ x ∈ names, x.2 ≠ .cell) (hps : ∀ x ∈ ps, names.lookup x = some .local) (hn : ps.Nodup) (hlp : nm.map (ixOf ps) = lp) (hnd : cn.Nodup)
 (hb : ∀ L a code cl fr, RefE g prog ⟨newEnv ⟨.function, names, false, false, more⟩ L mainGlobals cl (info.qual ++ ".<locals>.") (some a) code none builtinsNs, nm, cn, newEnv ⟨.function, names, false, false, more⟩ L mainGlobals cl (info.qual ++ ".<locals>.") (some a) code none builtinsNs :: fr, true⟩ m e fb)
 (hmn : m + 1 <= n) (hq : cx.q = true) (b : AV) (u : Value) (as : List AV) (vs : List Value) : RefX g prog cx n (fun V => repV g.ν V b u /\ reps g.ν V as vs) (repV g.ν) (call u vs) (xr3 k ps.length lp fb b as) := by
 refine zm4 G (m := m) (info := info) (nm := nm) ⟨hk, fun L a code cl fr => ?_⟩ (fun fd h1 h2 h3 vs hv => zq0 (h1.trans hpar) h2 h3 fun fd => hbind fd vs hv) ?_ ?_ hn hlp ?_ ?_ ?_ ?_ hmn hq b u as vs
 . have := hb L a code cl fr
   unfold qb1
   rw [hsc, hbody, hclo]
   exact this
 . rw [hsc]; exact hcell
 . rw [hsc]; exact hps
 . rw [hclo]; exact hnd
 . rw [hsc]
 . rw [hsc]
 . rw [hsc]
end
section
variable {prog : Program}
noncomputable def qg5 (mt : Bool -> Nat -> Int -> Option SI) : List AV -> AM AV := fun as => (qf1 1 as).bind (qd5 [some 0] [] [] (seqM (retM (bin2 (u9q [((q8q [(locM 0)]).bind (one lenM))]) (((locM 0).bind qa8).bind (v4q (.list []) 1 [] 200 false (q7q 0) (AM.ret true) (qk3 ((q8q [(locM 0)]).bind (one zt9))))) addM))
 (AM.ret .next)))
theorem qo3 {g : Gl} (S : Sit g) : qf2 g prog (.ref 181) := w8q (S.X 181 _ rfl) rfl
theorem xn7 {g : Gl} (S : Sit g) : qc1 g prog 1 (.ref 181) (qg5 g.mt) :=
 y8q S.G (ps := ["name"]) (nm := ["name"]) (cn := []) (S.X 181 _ rfl) rfl (j5q S rfl rfl rfl rfl) rfl rfl (y5q fun vs hv s => x9q hv fun _ => rfl) (by decide +kernel) (by decide +kernel) (by decide +kernel) (by decide +kernel) (by decide +kernel) (by decide +kernel) rfl rfl rfl rfl rfl fun L fr =>
 (q2q (qi9 (qf0 (k0q (q1q (y3q (qd2 S.sm) (q9q S.G (qd0 S) rfl (by decide +kernel) rfl rfl rfl rfl rfl) (q1q (q0q (i := 0) rfl rfl rfl rfl) rfl q4q)) rfl q4q)) (j9q (j8q (nm := ["sign"]) (cn := []) (cj := []) (tup := false) (fun _ => rfl) (closureFor_none (by decide +kernel)) rfl (by decide +kernel) (by decide +kernel) .nil (fun z => nomatch z) (fun _ => (x2q (q5q (i := 0) rfl (uniq (l := ["sign"]) (by decide +kernel) rfl) rfl rfl))) (fun _ => v7q) (fun _ => (y3q zt8 (q9q S.G (ji7 S) rfl (by decide +kernel) rfl rfl rfl rfl rfl) (q1q (q0q (i := 0) rfl rfl rfl rfl) rfl q4q)))) ⟨_, _, _, rfl, rfl, rfl⟩ rfl 200 (qf3 S.sm (q0q (i := 0) rfl rfl rfl rfl))) add_ok))
 x1q)
theorem qo4 {g : Gl} (S : Sit g) : FnOk g prog 1 (.ref 181) (qg5 g.mt) := (xn7 S).ok
noncomputable def qf5 (mt : Bool -> Nat -> Int -> Option SI) : List AV -> AM AV := fun as => (qf1 1 as).bind (qd5 [some 0] [] [] (seqM (ifM (((q8q [(bin2 (locM 0) (AM.ret (.int (.lin 1 0 0))) subM)]).bind (one xa2)).bind fun a => (AM.ret (.stat (.type "int"))).bind fun b => ((isM false) a b).bind x6q) (seqM (retM (bin2 ((q8q [(bin2 (locM 0) (AM.ret (.int (.lin 0 0 0))) subM)]).bind (qg5 mt)) (u9q [(AM.ret (.int (.lin 0 0 0))), (bin2 (locM 0) (AM.ret (.int (.lin 1 0 0))) subM)]) addM))
 (AM.ret .next)) (AM.ret .next))
 (seqM (retM (bin2 (bin2 ((q8q [(bin2 (locM 0) (AM.ret (.int (.lin 0 0 0))) subM)]).bind (qg5 mt)) (u9q [((q8q [(bin2 (locM 0) (AM.ret (.int (.lin 1 0 0))) subM)]).bind (one lenM))]) addM) (((bin2 (locM 0) (AM.ret (.int (.lin 1 0 0))) subM).bind qa8).bind (v4q (.list []) 2 [] 200 false (q7q 0) (AM.ret true) (fun a => (((q8q [(locM 0)]).bind (qg5 mt)).bind qa8).bind fun src => match qh8 src with | true => qb5 false src (q7q 1) (AM.ret true) (qk3 (locM 1) a) 200 0 | false => AM.fail))) addM))
 (AM.ret .next))))
theorem qq7 {g : Gl} (S : Sit g) : qf2 g prog (.ref 186) := w8q (S.X 186 _ rfl) rfl
theorem xa1 {g : Gl} (S : Sit g) : qc1 g prog 2 (.ref 186) (qf5 g.mt) :=
 y8q S.G (ps := ["cell"]) (nm := ["cell"]) (cn := []) (S.X 186 _ rfl) rfl (j5q S rfl rfl rfl rfl) rfl rfl (y5q fun vs hv s => x9q hv fun _ => rfl) (by decide +kernel) (by decide +kernel) (by decide +kernel) (by decide +kernel) (by decide +kernel) (by decide +kernel) rfl rfl rfl rfl rfl fun L fr =>
 (q2q (S_if (v5q rfl (ql2 qu5 (q9q S.G (xd7 S) rfl (by decide +kernel) rfl rfl rfl rfl rfl) (q1q (k3q (fun _ _ => ⟨_, rfl⟩) (q0q (i := 0) rfl rfl rfl rfl) j0q) rfl q4q)) (q9q S.G (xt4 S) rfl (by decide +kernel) rfl rfl rfl rfl rfl) (qr9 (.inl ⟨rfl, rfl⟩)) x0q) (q2q (qi9 (qf0 (w2q (qo4 S) (qo3 S) (by decide) rfl (k9q S.G (qj9 S) rfl rfl rfl rfl) (q1q (k3q (fun _ _ => ⟨_, rfl⟩) (q0q (i := 0) rfl rfl rfl rfl) j0q) rfl q4q)) (k0q (q1q j0q rfl (q1q (k3q (fun _ _ => ⟨_, rfl⟩) (q0q (i := 0) rfl rfl rfl rfl) j0q) rfl q4q))) add_ok))
 x1q) x1q)
 (q2q (qi9 (qf0 (qf0 (w2q (qo4 S) (qo3 S) (by decide) rfl (k9q S.G (qj9 S) rfl rfl rfl rfl) (q1q (k3q (fun _ _ => ⟨_, rfl⟩) (q0q (i := 0) rfl rfl rfl rfl) j0q) rfl q4q)) (k0q (q1q (y3q (qd2 S.sm) (q9q S.G (qd0 S) rfl (by decide +kernel) rfl rfl rfl rfl rfl) (q1q (k3q (fun _ _ => ⟨_, rfl⟩) (q0q (i := 0) rfl rfl rfl rfl) j0q) rfl q4q)) rfl q4q)) add_ok) (j9q (xa3 (nm := ["name", "octet"]) (cn := []) (cj := []) (tup := false) (tup2 := false) ⟨_, _, _, rfl, rfl, rfl⟩ rfl 200 (fun _ => rfl) (closureFor_none (by decide +kernel)) rfl (by decide +kernel) (by decide +kernel) .nil (fun z => nomatch z) (fun _ => (x2q (q5q (i := 0) rfl (uniq (l := ["name", "octet"]) (by decide +kernel) rfl) rfl rfl))) (fun _ => v7q) (fun _ _ => rfl) (fun z => nomatch z) (fun _ => (qf3 S.sm (w2q (qo4 S) (qo3 S) (by decide) rfl (k9q S.G (qj9 S) rfl rfl rfl rfl) (q1q (q0q (i := 0) rfl rfl rfl rfl) rfl q4q)))) (fun _ => (x2q (q5q (i := 1) rfl (uniq (l := ["name", "octet"]) (by decide +kernel) rfl) rfl rfl))) (fun _ => v7q) (fun _ => (q0q (i := 1) rfl rfl rfl rfl))) ⟨_, _, _, rfl, rfl, rfl⟩ rfl 200 (qf3 S.sm (k3q (fun _ _ => ⟨_, rfl⟩) (q0q (i := 0) rfl rfl rfl rfl) j0q))) add_ok))
 x1q))
theorem qq8 {g : Gl} (S : Sit g) : FnOk g prog 2 (.ref 186) (qf5 g.mt) := (xa1 S).ok
noncomputable def qo1 (mt : Bool -> Nat -> Int -> Option SI) : List AV -> AM AV := fun as => (qf1 1 as).bind (qd5 [some 0, none, none] [none, none, none] [] (seqM (asgM (u9q []) (qc9 0))
 (seqM (((locM 0).bind xb7).bind fun src => forI true src (qd9 [(qc9 1), (qc9 2)]) (seqM ((qe4 u4q (celM 0) [(bin2 (u9q [(bin2 (AM.ret (.str [97, 98, 99, 100, 101, 102, 103, 104])) (celM 1) subM), (bin2 (AM.ret (.str [233])) (bin2 (AM.ret (.str [97, 98, 99, 100, 101, 102, 103, 104])) (celM 1) subM) addM), (bin2 (bin2 (AM.ret (.str [97, 98, 99, 100, 101, 102, 103, 104])) (celM 1) subM) (AM.ret (.int (.lin 3 0 0))) mulM)]) (bin2 (celM 2) (AM.ret (.int (.lin 3 0 0))) (qc5 (SI.fmod mt))) subM)] (two qg0)).bind fun _ => AM.ret .next)
 (AM.ret .next)) 200 0)
 (seqM (asgM (u9q []) (q7q 1))
 (seqM (((locM 0).bind xb7).bind fun src => forI true src (qd9 [(qc9 1), (qc9 2)]) (seqM (asgM (((celM 1).bind fun a => (AM.ret (.int (.lin 0 0 0))).bind fun b => ((ordM fun a b => decide (b < a)) a b).bind x6q).bind fun b => match b with | true => (((bin2 (bin2 (celM 2) (AM.ret (.int (.lin 3 0 0))) (qc5 SI.fdiv)) (AM.ret (.int (.lin 4 0 0))) (qc5 (SI.fmod mt))).bind qh7).bind (v4q (.list []) 1 [0, 2, 1] 200 false (q7q 0) (AM.ret true) (qk3 (bin2 (celM 0) (bin2 (bin2 (bin2 (celM 1) (AM.ret (.int (.lin 12 0 0))) (qc5 SI.fdiv)) (bin2 (celM 2) (locM 0) (qc5 SI.pow)) (qc5 SI.fdiv)) (celM 2) (qc5 (SI.fmod mt))) subM)))) | false => (u9q [])) (q7q 2))
 (seqM ((qe4 u4q (locM 1) [(u9q [(bin2 (celM 0) (celM 1) subM), (((locM 2).bind fun a => (u9q []).bind fun b => ((eqM true) a b).bind x6q).bind fun b => match b with | true => (locM 2) | false => (bin2 (bin2 (celM 2) (AM.ret (.int (.lin 12 0 0))) (qc5 SI.fdiv)) (AM.ret (.int (.lin 256 0 0))) (qc5 (SI.fmod mt))))])] (two qg0)).bind fun _ => AM.ret .next)
 (AM.ret .next))) 200 0)
 (seqM (retM (locM 1))
 (AM.ret .next)))))))
theorem xn3 {g : Gl} (S : Sit g) : qf2 g prog (.ref 176) := w8q (S.X 176 _ rfl) rfl
theorem xi1 {g : Gl} (S : Sit g) : qc1 g prog 1 (.ref 176) (qo1 g.mt) :=
 y8q S.G (ps := ["numbers"]) (nm := ["numbers", "cells", "needs"]) (cn := ["names", "k", "x"]) (S.X 176 _ rfl) rfl (j5q S rfl rfl rfl rfl) rfl rfl (y5q fun vs hv s => x9q hv fun _ => rfl) (by decide +kernel) (by decide +kernel) (by decide +kernel) (by decide +kernel) (by decide +kernel) (by decide +kernel) rfl rfl rfl rfl rfl fun L fr =>
 (q2q (u8q rfl (k0q q4q) (u6q (j := 0) rfl rfl rfl))
 (q2q (qh2 200 true rfl (fun _ => rfl) (fun _ => ⟨_, _, _, rfl⟩) (zs9 (q9q S.G (qt0 S) rfl (by decide +kernel) rfl rfl rfl rfl rfl) (q1q (q0q (i := 0) rfl rfl rfl rfl) rfl q4q)) (qd6 rfl (j6q (x2q (u6q (j := 1) rfl rfl rfl)) rfl (j6q (x2q (u6q (j := 2) rfl rfl rfl)) rfl qi8))) (q2q (u7q rfl rfl (qe9 (qe5 PySem.F.slot_list_append PySem.F.type_list_append) qb9 (x4q (j := 0) rfl rfl rfl rfl) (q1q (k3q (fun _ _ => ⟨_, rfl⟩) (k0q (q1q (k3q (fun _ _ => ⟨_, rfl⟩) (qu4 (l := [97, 98, 99, 100, 101, 102, 103, 104]) rfl) (x4q (j := 1) rfl rfl rfl rfl)) rfl (q1q (qf0 (qu4 (l := [233]) rfl) (k3q (fun _ _ => ⟨_, rfl⟩) (qu4 (l := [97, 98, 99, 100, 101, 102, 103, 104]) rfl) (x4q (j := 1) rfl rfl rfl rfl)) add_ok) rfl (q1q (qf0 (k3q (fun _ _ => ⟨_, rfl⟩) (qu4 (l := [97, 98, 99, 100, 101, 102, 103, 104]) rfl) (x4q (j := 1) rfl rfl rfl rfl)) j0q jh8) rfl q4q)))) (qf0 (x4q (j := 2) rfl rfl rfl rfl) j0q (fmod_ok S.G))) rfl q4q) _ rfl))
 x1q))
 (q2q (u8q rfl (k0q q4q) (q5q (i := 1) rfl (uniq (l := ["numbers", "cells", "needs"]) (by decide +kernel) rfl) rfl rfl))
 (q2q (qh2 200 true rfl (fun _ => rfl) (fun _ => ⟨_, _, _, rfl⟩) (zs9 (q9q S.G (qt0 S) rfl (by decide +kernel) rfl rfl rfl rfl rfl) (q1q (q0q (i := 0) rfl rfl rfl rfl) rfl q4q)) (qd6 rfl (j6q (x2q (u6q (j := 1) rfl rfl rfl)) rfl (j6q (x2q (u6q (j := 2) rfl rfl rfl)) rfl qi8))) (q2q (u8q rfl (qo6 (v5q rfl (x4q (j := 1) rfl rfl rfl rfl) j0q jk6 x0q) (j9q (j8q (nm := ["j"]) (cn := ["names", "x", "k"]) (cj := [0, 2, 1]) (tup := false) (fun _ => rfl) (z3q rfl) rfl (by decide +kernel) (by decide +kernel) (.cons .zero (by rfl) (.cons (.succ (.succ .zero)) (by rfl) (.cons (.succ .zero) (by rfl) .nil))) (fun z => nomatch z) (fun _ => (x2q (q5q (i := 0) rfl (uniq (l := ["j"]) (by decide +kernel) rfl) rfl rfl))) (fun _ => v7q) (fun _ => (k3q (fun _ _ => ⟨_, rfl⟩) (x4q (j := 0) rfl rfl rfl rfl) (qf0 (qf0 (qf0 (x4q (j := 1) rfl rfl rfl rfl) j0q fdiv_ok) (qf0 (x4q (j := 2) rfl rfl rfl rfl) (q0q (i := 0) rfl rfl rfl rfl) jh0) fdiv_ok) (x4q (j := 2) rfl rfl rfl rfl) (fmod_ok S.G))))) ⟨_, _, _, rfl, rfl, rfl⟩ rfl 200 (qy4 (q9q S.G (qp1 S) rfl (by decide +kernel) rfl rfl rfl rfl rfl) (q1q (qf0 (qf0 (x4q (j := 2) rfl rfl rfl rfl) j0q fdiv_ok) j0q (fmod_ok S.G)) rfl q4q))) (k0q q4q)) (q5q (i := 2) rfl (uniq (l := ["numbers", "cells", "needs"]) (by decide +kernel) rfl) rfl rfl))
 (q2q (u7q rfl rfl (qe9 (qe5 PySem.F.slot_list_append PySem.F.type_list_append) qb9 (q0q (i := 1) rfl rfl rfl rfl) (q1q (k0q (q1q (k3q (fun _ _ => ⟨_, rfl⟩) (x4q (j := 0) rfl rfl rfl rfl) (x4q (j := 1) rfl rfl rfl rfl)) rfl (q1q (qo6 (v5q rfl (q0q (i := 2) rfl rfl rfl rfl) (k0q q4q) zu3 x0q) (q0q (i := 2) rfl rfl rfl rfl) (qf0 (qf0 (x4q (j := 2) rfl rfl rfl rfl) j0q fdiv_ok) j0q (fmod_ok S.G))) rfl q4q))) rfl q4q) _ rfl))
 x1q)))
 (q2q (qi9 (q0q (i := 1) rfl rfl rfl rfl))
 x1q)))))
theorem xn5 {g : Gl} (S : Sit g) : FnOk g prog 1 (.ref 176) (qo1 g.mt) := (xi1 S).ok
noncomputable def qg6 (mt : Bool -> Nat -> Int -> Option SI) : List AV -> AM AV := fun as => (qf1 1 as).bind (qd5 [some 0, none, none, none] [none] [] (seqM (asgM (newM (.dict [] 0)) (qc9 0))
 (seqM (((locM 0).bind qa8).bind fun src => forI false src (q7q 1) (seqM (((locM 0).bind qa8).bind fun src => forI true src (qd9 [(q7q 2), (q7q 3)]) (seqM (ifM (((q8q [(locM 3)]).bind (one xa2)).bind fun a => (AM.ret (.stat (.type "int"))).bind fun b => ((isM false) a b).bind x6q) (seqM ((locM 3).bind fun v => (celM 0).bind fun a => (locM 2).bind fun b => (qz8 a b v).bind fun _ => AM.ret .next)
 (AM.ret .next)) (seqM (ifM ((((locM 3).bind qa8).bind (v4q (.list []) 1 [0] 200 false (q7q 0) ((locM 0).bind fun a => (celM 0).bind fun b => ((memM true) a b).bind x6q) (qk3 (locM 0)))).bind fun a => (u9q []).bind fun b => ((eqM false) a b).bind x6q) (seqM (((q8q [(((locM 3).bind qa8).bind (v4q (.list []) 1 [0] 200 false (q7q 0) (AM.ret true) (qk3 (bin2 (celM 0) (locM 0) subM))))]).bind (one sumM)).bind fun v => (celM 0).bind fun a => (locM 2).bind fun b => (qz8 a b v).bind fun _ => AM.ret .next)
 (AM.ret .next)) (AM.ret .next))
 (AM.ret .next)))
 (AM.ret .next)) 200 0)
 (AM.ret .next)) 200 0)
 (seqM (retM ((((q8q [(celM 0)]).bind (one lenM)).bind fun a => ((q8q [(locM 0)]).bind (one lenM)).bind fun b => ((eqM false) a b).bind x6q).bind fun b => match b with | true => (((locM 0).bind qa8).bind (v4q (.list []) 2 [0] 200 true (qd9 [(q7q 0), (q7q 1)]) (AM.ret true) (qk3 (u9q [(locM 0), (bin2 (celM 0) (locM 0) subM)])))) | false => (u9q [])))
 (AM.ret .next)))))
theorem xr6 {g : Gl} (S : Sit g) : qf2 g prog (.ref 215) := w8q (S.X 215 _ rfl) rfl
theorem xn8 {g : Gl} (S : Sit g) : qc1 g prog 1 (.ref 215) (qg6 g.mt) :=
 y8q S.G (ps := ["cells"]) (nm := ["cells", "turn", "name", "found"]) (cn := ["known"]) (S.X 215 _ rfl) rfl (j5q S rfl rfl rfl rfl) rfl rfl (y5q fun vs hv s => x9q hv fun _ => rfl) (by decide +kernel) (by decide +kernel) (by decide +kernel) (by decide +kernel) (by decide +kernel) (by decide +kernel) rfl rfl rfl rfl rfl fun L fr =>
 (q2q (u8q rfl xi3 (u6q (j := 0) rfl rfl rfl))
 (q2q (qh2 200 false rfl (fun _ => rfl) (fun z => nomatch z) (qf3 S.sm (q0q (i := 0) rfl rfl rfl rfl)) (x2q (q5q (i := 1) rfl (uniq (l := ["cells", "turn", "name", "found"]) (by decide +kernel) rfl) rfl rfl)) (q2q (qh2 200 true rfl (fun _ => rfl) (fun _ => ⟨_, _, _, rfl⟩) (qf3 S.sm (q0q (i := 0) rfl rfl rfl rfl)) (qd6 rfl (j6q (x2q (q5q (i := 2) rfl (uniq (l := ["cells", "turn", "name", "found"]) (by decide +kernel) rfl) rfl rfl)) rfl (j6q (x2q (q5q (i := 3) rfl (uniq (l := ["cells", "turn", "name", "found"]) (by decide +kernel) rfl) rfl rfl)) rfl qi8))) (q2q (S_if (v5q rfl (ql2 qu5 (q9q S.G (xd7 S) rfl (by decide +kernel) rfl rfl rfl rfl rfl) (q1q (q0q (i := 3) rfl rfl rfl rfl) rfl q4q)) (q9q S.G (xt4 S) rfl (by decide +kernel) rfl rfl rfl rfl rfl) (qr9 (.inl ⟨rfl, rfl⟩)) x0q) (q2q (xm7 rfl (q0q (i := 3) rfl rfl rfl rfl) (x4q (j := 0) rfl rfl rfl rfl) (q0q (i := 2) rfl rfl rfl rfl))
 x1q) (q2q (S_if (v5q rfl (j9q (j8q (nm := ["need"]) (cn := ["known"]) (cj := [0]) (tup := false) (fun _ => rfl) (z3q rfl) rfl (by decide +kernel) (by decide +kernel) (.cons .zero (by rfl) .nil) (fun z => nomatch z) (fun _ => (x2q (q5q (i := 0) rfl (uniq (l := ["need"]) (by decide +kernel) rfl) rfl rfl))) (fun _ => (zi8 (v5q rfl (q0q (i := 0) rfl rfl rfl rfl) (x4q (j := 0) rfl rfl rfl rfl) (zk9 S.sm) x0q))) (fun _ => (q0q (i := 0) rfl rfl rfl rfl))) ⟨_, _, _, rfl, rfl, rfl⟩ rfl 200 (qf3 S.sm (q0q (i := 3) rfl rfl rfl rfl))) (k0q q4q) xl5 x0q) (q2q (xm7 rfl (y3q (zr0 rfl) (q9q S.G (zr5 S) rfl (by decide +kernel) rfl rfl rfl rfl rfl) (q1q (j9q (j8q (nm := ["need"]) (cn := ["known"]) (cj := [0]) (tup := false) (fun _ => rfl) (z3q rfl) rfl (by decide +kernel) (by decide +kernel) (.cons .zero (by rfl) .nil) (fun z => nomatch z) (fun _ => (x2q (q5q (i := 0) rfl (uniq (l := ["need"]) (by decide +kernel) rfl) rfl rfl))) (fun _ => v7q) (fun _ => (k3q (fun _ _ => ⟨_, rfl⟩) (x4q (j := 0) rfl rfl rfl rfl) (q0q (i := 0) rfl rfl rfl rfl)))) ⟨_, _, _, rfl, rfl, rfl⟩ rfl 200 (qf3 S.sm (q0q (i := 3) rfl rfl rfl rfl))) rfl q4q)) (x4q (j := 0) rfl rfl rfl rfl) (q0q (i := 2) rfl rfl rfl rfl))
 x1q) x1q)
 x1q))
 x1q))
 x1q))
 (q2q (qi9 (qo6 (v5q rfl (y3q (qd2 S.sm) (q9q S.G (qd0 S) rfl (by decide +kernel) rfl rfl rfl rfl rfl) (q1q (x4q (j := 0) rfl rfl rfl rfl) rfl q4q)) (y3q (qd2 S.sm) (q9q S.G (qd0 S) rfl (by decide +kernel) rfl rfl rfl rfl rfl) (q1q (q0q (i := 0) rfl rfl rfl rfl) rfl q4q)) xl5 x0q) (j9q (j8q (nm := ["name", "found"]) (cn := ["known"]) (cj := [0]) (tup := true) (fun _ => rfl) (z3q rfl) rfl (by decide +kernel) (by decide +kernel) (.cons .zero (by rfl) .nil) (fun _ => ⟨_, _, _, rfl⟩) (fun _ => (qd6 rfl (j6q (x2q (q5q (i := 0) rfl (uniq (l := ["name", "found"]) (by decide +kernel) rfl) rfl rfl)) rfl (j6q (x2q (q5q (i := 1) rfl (uniq (l := ["name", "found"]) (by decide +kernel) rfl) rfl rfl)) rfl qi8)))) (fun _ => v7q) (fun _ => (k0q (q1q (q0q (i := 0) rfl rfl rfl rfl) rfl (q1q (k3q (fun _ _ => ⟨_, rfl⟩) (x4q (j := 0) rfl rfl rfl rfl) (q0q (i := 0) rfl rfl rfl rfl)) rfl q4q))))) ⟨_, _, _, rfl, rfl, rfl⟩ rfl 200 (qf3 S.sm (q0q (i := 0) rfl rfl rfl rfl))) (k0q q4q)))
 x1q)))
theorem xr7 {g : Gl} (S : Sit g) : FnOk g prog 1 (.ref 215) (qg6 g.mt) := (xn8 S).ok
noncomputable def qo0 (mt : Bool -> Nat -> Int -> Option SI) : List AV -> AM AV := fun as => (qf1 2 as).bind (qd5 [some 0, some 1, none] [] [] (seqM (asgM ((bin2 (locM 0) (AM.ret (.int (.lin 0 0 0))) subM).bind fun a => (AM.ret .none).bind fun b => (locM 1).bind fun c => qv2 a b c) (q7q 2))
 (seqM (((bin2 (locM 0) (AM.ret (.int (.lin 0 0 0))) subM).bind fun a => (locM 1).bind fun b => (AM.ret .none).bind fun c => qv2 a b c).bind fun v => (locM 0).bind fun a => (AM.ret (.int (.lin 0 0 0))).bind fun b => (qz8 a b v).bind fun _ => AM.ret .next)
 (seqM (retM (locM 2))
 (AM.ret .next)))))
theorem xn2 {g : Gl} (S : Sit g) : qf2 g prog (.ref 193) := w8q (S.X 193 _ rfl) rfl
theorem xi0 {g : Gl} (S : Sit g) : qc1 g prog 1 (.ref 193) (qo0 g.mt) :=
 y8q S.G (ps := ["rest", "many"]) (nm := ["rest", "many", "data"]) (cn := []) (S.X 193 _ rfl) rfl (j5q S rfl rfl rfl rfl) rfl rfl (y5q fun vs hv s => qe6 hv fun _ _ => rfl) (by decide +kernel) (by decide +kernel) (by decide +kernel) (by decide +kernel) (by decide +kernel) (by decide +kernel) rfl rfl rfl rfl rfl fun L fr =>
 (q2q (u8q rfl (qy7 (k3q (fun _ _ => ⟨_, rfl⟩) (q0q (i := 0) rfl rfl rfl rfl) j0q) xn1 (xn0 (q0q (i := 1) rfl rfl rfl rfl))) (q5q (i := 2) rfl (uniq (l := ["rest", "many", "data"]) (by decide +kernel) rfl) rfl rfl))
 (q2q (xm7 rfl (qy7 (k3q (fun _ _ => ⟨_, rfl⟩) (q0q (i := 0) rfl rfl rfl rfl) j0q) (xn0 (q0q (i := 1) rfl rfl rfl rfl)) xn1) (q0q (i := 0) rfl rfl rfl rfl) j0q)
 (q2q (qi9 (q0q (i := 2) rfl rfl rfl rfl))
 x1q)))
theorem xn4 {g : Gl} (S : Sit g) : FnOk g prog 1 (.ref 193) (qo0 g.mt) := (xi0 S).ok
noncomputable def FL1 (mt : Bool -> Nat -> Int -> Option SI) : AV -> List AV -> AM AV := xr3 1 1 [some 0] ((q8q [(celM 0), (locM 0)]).bind (qo0 mt))
theorem ze9 {g : Gl} (S : Sit g) {cx : Cx} {n : Nat} (hmn : 2 <= n) (hq : cx.q = true) (b : AV) (u : Value) (as : List AV) (vs : List Value) : RefX g prog cx n (fun V => repV g.ν V b u /\ reps g.ν V as vs) (repV g.ν) (call u vs) (FL1 g.mt b as) :=
 xu0 S.G (k := 1) (ps := ["many"]) (nm := ["many"]) (cn := ["rest"]) (m := 1) (fn1 S) rfl rfl rfl rfl (fun fd vs hv => by
  obtain ⟨a, rfl⟩ := len1 hv
  rfl) (by decide +kernel) (by decide +kernel) (by decide +kernel) (by decide +kernel) (by decide +kernel)
  (fun L a code cl fr => w2q (xn4 S) (xn2 S) (by decide) rfl (k9q S.G (xd8 S) rfl rfl rfl rfl) (q1q (zt0 (j := 0) rfl rfl rfl rfl rfl) rfl (q1q (q0q (i := 0) rfl rfl rfl rfl) rfl q4q))) hmn hq b u as vs
noncomputable def FL2 (mt : Bool -> Nat -> Int -> Option SI) : AV -> List AV -> AM AV := xr3 2 2 [some 0, some 1] (bin2 (locM 0) (bin2 (celM 0) (locM 1) subM) addM)
theorem zv2 {g : Gl} (S : Sit g) {cx : Cx} {n : Nat} (hmn : 1 <= n) (hq : cx.q = true) (b : AV) (u : Value) (as : List AV) (vs : List Value) : RefX g prog cx n (fun V => repV g.ν V b u /\ reps g.ν V as vs) (repV g.ν) (call u vs) (FL2 g.mt b as) :=
 xu0 S.G (k := 2) (ps := ["many", "need"]) (nm := ["many", "need"]) (cn := ["worths"]) (m := 0) (fn2 S) rfl rfl rfl rfl (fun fd vs hv => by
  obtain ⟨a, b, rfl⟩ := len2 hv
  rfl) (by decide +kernel) (by decide +kernel) (by decide +kernel) (by decide +kernel) (by decide +kernel)
  (fun L a code cl fr => qf0 (q0q (i := 0) rfl rfl rfl rfl) (k3q (fun _ _ => ⟨_, rfl⟩) (zt0 (j := 0) rfl rfl rfl rfl rfl) (q0q (i := 1) rfl rfl rfl rfl)) add_ok) hmn hq b u as vs
noncomputable def qe3 (mt : Bool -> Nat -> Int -> Option SI) : List AV -> AM AV := fun as => (qf1 1 as).bind (qd5 [some 0, none] [] [] (seqM (asgM ((locM 0).bind fun a => xu8 [114, 101, 97, 100] a fun b => xr2 (FL1 mt) b [] [(AM.ret (.int (.lin 1 0 0)))]) (q7q 1))
 (seqM (ifM ((locM 1).bind x6q) (seqM (retM (bin2 (locM 1) (AM.ret (.int (.lin 0 0 0))) subM))
 (AM.ret .next)) (AM.ret .next))
 (seqM (qj0 0 [(AM.ret (.str [110, 111, 116, 32, 101, 110, 111, 117, 103, 104, 32, 100, 97, 116, 97, 32, 105, 110, 32, 115, 116, 114, 101, 97, 109, 32, 116, 111, 32, 114, 101, 97, 100, 32, 117, 105, 110, 116, 49]))])
 (AM.ret .next)))))
theorem qk9 {g : Gl} (S : Sit g) : qf2 g prog (.ref 28) := w8q (S.X 28 _ rfl) rfl
theorem xh9 {g : Gl} (S : Sit g) : qc1 g prog 3 (.ref 28) (qe3 g.mt) :=
 y8q S.G (ps := ["f"]) (nm := ["f", "data"]) (cn := []) (S.X 28 _ rfl) rfl (j5q S rfl rfl rfl rfl) rfl rfl (y5q fun vs hv s => x9q hv fun _ => rfl) (by decide +kernel) (by decide +kernel) (by decide +kernel) (by decide +kernel) (by decide +kernel) (by decide +kernel) rfl rfl rfl rfl rfl fun L fr =>
 (q2q (u8q rfl (zj2 (name := [114, 101, 97, 100]) qs1 (fun _ _ _ => xg5) (ze9 S (by decide) rfl) (q0q (i := 0) rfl rfl rfl rfl) (q1q j0q rfl q4q) _ rfl) (q5q (i := 1) rfl (uniq (l := ["f", "data"]) (by decide +kernel) rfl) rfl rfl))
 (q2q (S_if (za6 rfl (q0q (i := 1) rfl rfl rfl rfl) x0q) (q2q (qi9 (k3q (fun _ _ => ⟨_, rfl⟩) (q0q (i := 1) rfl rfl rfl rfl) j0q))
 x1q) x1q)
 (q2q (qs4 rfl rfl PySem.F.excCall_ValueError PySem.F.excRaise_ValueError (q9q S.G (y0q S) rfl (by decide +kernel) rfl rfl rfl rfl rfl) (q1q (qu4 (l := [110, 111, 116, 32, 101, 110, 111, 117, 103, 104, 32, 100, 97, 116, 97, 32, 105, 110, 32, 115, 116, 114, 101, 97, 109, 32, 116, 111, 32, 114, 101, 97, 100, 32, 117, 105, 110, 116, 49]) rfl) rfl q4q))
 x1q)))
theorem ql0 {g : Gl} (S : Sit g) : FnOk g prog 3 (.ref 28) (qe3 g.mt) := (xh9 S).ok
noncomputable def qd4 (mt : Bool -> Nat -> Int -> Option SI) : List AV -> AM AV := fun as => (qf1 1 as).bind (qd5 [some 0, none, none] [] [] (seqM (asgM ((q8q [(locM 0)]).bind (qe3 mt)) (q7q 1))
 (seqM (qk7 ((locM 1).bind fun a => (AM.ret (.int (.lin 0 0 0))).bind fun b => ((ordM fun a b => decide (b <= a)) a b).bind x6q))
 (seqM (asgM ((locM 0).bind fun a => xu8 [114, 101, 97, 100] a fun b => xr2 (FL1 mt) b [] [(locM 1)]) (q7q 2))
 (seqM (ifM (((q8q [(locM 2)]).bind (one lenM)).bind fun a => (locM 1).bind fun b => ((eqM false) a b).bind x6q) (seqM (retM (qe4 xe9 (locM 2) [(AM.ret (.str [108, 97, 116, 105, 110, 45, 49]))] (two decM)))
 (AM.ret .next)) (AM.ret .next))
 (seqM ((pctM (qm2 [(locM 1), ((q8q [(locM 2)]).bind (one lenM))])).bind fun _ => (fun st => .exc 0 st))
 (AM.ret .next)))))))
theorem qm9 {g : Gl} (S : Sit g) : qf2 g prog (.ref 35) := w8q (S.X 35 _ rfl) rfl
theorem qy6 {g : Gl} (S : Sit g) : qc1 g prog 4 (.ref 35) (qd4 g.mt) :=
 y8q S.G (ps := ["f"]) (nm := ["f", "n", "data"]) (cn := []) (S.X 35 _ rfl) rfl (j5q S rfl rfl rfl rfl) rfl rfl (y5q fun vs hv s => x9q hv fun _ => rfl) (by decide +kernel) (by decide +kernel) (by decide +kernel) (by decide +kernel) (by decide +kernel) (by decide +kernel) rfl rfl rfl rfl rfl fun L fr =>
 (q2q (u8q rfl (w2q (ql0 S) (qk9 S) (by decide) rfl (k9q S.G (qi2 S) rfl rfl rfl rfl) (q1q (q0q (i := 0) rfl rfl rfl rfl) rfl q4q)) (q5q (i := 1) rfl (uniq (l := ["f", "n", "data"]) (by decide +kernel) rfl) rfl rfl))
 (q2q (zq5 rfl (v5q rfl (q0q (i := 1) rfl rfl rfl rfl) j0q jk8 x0q))
 (q2q (u8q rfl (zj2 (name := [114, 101, 97, 100]) qs1 (fun _ _ _ => xg5) (ze9 S (by decide) rfl) (q0q (i := 0) rfl rfl rfl rfl) (q1q (q0q (i := 1) rfl rfl rfl rfl) rfl q4q) _ rfl) (q5q (i := 2) rfl (uniq (l := ["f", "n", "data"]) (by decide +kernel) rfl) rfl rfl))
 (q2q (S_if (v5q rfl (y3q (qd2 S.sm) (q9q S.G (qd0 S) rfl (by decide +kernel) rfl rfl rfl rfl rfl) (q1q (q0q (i := 2) rfl rfl rfl rfl) rfl q4q)) (q0q (i := 1) rfl rfl rfl rfl) xl5 x0q) (q2q (qi9 (qe9 zg1 jl3 (q0q (i := 2) rfl rfl rfl rfl) (q1q (qu4 (l := [108, 97, 116, 105, 110, 45, 49]) rfl) rfl q4q) _ rfl))
 x1q) x1q)
 (q2q (zq3 rfl rfl PySem.F.excCall_ValueError PySem.F.excRaise_ValueError (q9q S.G (y0q S) rfl (by decide +kernel) rfl rfl rfl rfl rfl) rfl (jh1 rfl (qo5 (q1q (q0q (i := 1) rfl rfl rfl rfl) rfl (q1q (y3q (qd2 S.sm) (q9q S.G (qd0 S) rfl (by decide +kernel) rfl rfl rfl rfl rfl) (q1q (q0q (i := 2) rfl rfl rfl rfl) rfl q4q)) rfl q4q)))))
 x1q)))))
theorem qn0 {g : Gl} (S : Sit g) : FnOk g prog 4 (.ref 35) (qd4 g.mt) := (qy6 S).ok
end
section
variable {g : Gl} {prog : Program} {cx : Cx} {n : Nat} {K : Frag}
theorem xm2 {fd : FuncData} {ps : List Str} (X : K.In g.U) (h : ∀ vs : List Value, vs.length = ps.length -> ∀ s : Shared, K.In s.heap -> BindsTo s fd ⟨vs, []⟩ (ps.zip vs)) : xw6 g prog fd ps (qf1 ps.length) := by
 intro cx A V st s as vs hr I hb Q E hq
 unfold qf1 at hb hq
 induction e : Nat.beq as.length ps.length with
 | false => rw [e] at hb; exact q3q hb
 | true =>
  rw [e] at hq
  have hl : vs.length = ps.length := hr.length ▸ Nat.eq_of_beq_eq_true e
  exact h vs hl s (X.keeps I.base) _ A E Q (hq as vs st V s rfl hr hl I (Ext.refl _ _ _) fun _ _ e => e)
theorem za1 {fd : FuncData} {p q : Str} {vs : List Value} {s : Shared} (hv : vs.length = 2) (h : ∀ a b, BindsTo s fd ⟨[a, b], []⟩ [(p, a), (q, b)]) : BindsTo s fd ⟨vs, []⟩ ([p, q].zip vs) := by
 obtain ⟨a, b, rfl⟩ := len2 hv
 exact h a b
theorem za0 {fd : FuncData} {p q r : Str} {vs : List Value} {s : Shared} (hv : vs.length = 3) (h : ∀ a b c, BindsTo s fd ⟨[a, b, c], []⟩ [(p, a), (q, b), (r, c)]) : BindsTo s fd ⟨vs, []⟩ ([p, q, r].zip vs) := by
 obtain ⟨a, b, c, rfl⟩ := len3 hv
 exact h a b c
end
section
variable {prog : Program}
noncomputable def xp9 (mt : Bool -> Nat -> Int -> Option SI) : List AV -> AM AV := fun as => (qf1 3 as).bind (qd5 [some 0, some 1, some 2, none, none, none] [] [] (seqM (asgM ((q8q [(locM 1)]).bind (one xu4)) (q7q 3))
 (seqM (ifM ((locM 2).bind fun a => (AM.ret (.stat (.ref 43))).bind fun b => ((isM false) a b).bind x6q) (seqM AM.fail
 (AM.ret .next)) (seqM (asgM (locM 2) (q7q 4))
 (AM.ret .next)))
 (seqM ((locM 3).bind fun a => (itLM a).bind fun b => forM b nxLM (q7q 5) (seqM (asgM ((locM 0).bind fun b => xr2 (FL2 mt) b [] [(locM 4), (locM 5)]) (q7q 4))
 (AM.ret .next)) 200)
 (seqM (retM (locM 4))
 (AM.ret .next))))))
theorem zq6 {g : Gl} (S : Sit g) : qf2 g prog (.ref 51) := w8q (S.X 51 _ rfl) rfl
theorem zj0 {g : Gl} (S : Sit g) : qc1 g prog 2 (.ref 51) (xp9 g.mt) :=
 y8q S.G (ps := ["function", "sequence", "initial"]) (nm := ["function", "sequence", "initial", "it", "value", "element"]) (cn := []) (S.X 51 _ rfl) rfl (j5q S rfl rfl rfl rfl) rfl rfl (xm2 S.X fun vs hv s X => za0 hv fun _ _ _ => kp_binds X fun _ => rfl) (by decide +kernel) (by decide +kernel) (by decide +kernel) (by decide +kernel) (by decide +kernel) (by decide +kernel) rfl rfl rfl rfl rfl fun L fr =>
 (q2q (u8q rfl (y3q xu3 (q9q S.G (zd9 S) rfl (by decide +kernel) rfl rfl rfl rfl rfl) (q1q (q0q (i := 1) rfl rfl rfl rfl) rfl q4q)) (q5q (i := 3) rfl (uniq (l := ["function", "sequence", "initial", "it", "value", "element"]) (by decide +kernel) rfl) rfl rfl))
 (q2q (S_if (v5q rfl (q0q (i := 2) rfl rfl rfl rfl) (k9q S.G (qn7 S) rfl rfl rfl rfl) (qr9 (.inl ⟨rfl, rfl⟩)) x0q) (q2q xm6
 x1q) (q2q (u8q rfl (q0q (i := 2) rfl rfl rfl rfl) (q5q (i := 4) rfl (uniq (l := ["function", "sequence", "initial", "it", "value", "element"]) (by decide +kernel) rfl) rfl rfl))
 x1q))
 (q2q (S_for 200 (fun _ => rfl) (fun _ _ => rfl) (q0q (i := 3) rfl rfl rfl rfl) jk0 (jh4 rfl) (x2q (q5q (i := 5) rfl (uniq (l := ["function", "sequence", "initial", "it", "value", "element"]) (by decide +kernel) rfl) rfl rfl)) (q2q (u8q rfl (jf9 (q0q (i := 0) rfl rfl rfl rfl) (q1q (q0q (i := 4) rfl rfl rfl rfl) rfl (q1q (q0q (i := 5) rfl rfl rfl rfl) rfl q4q)) (fun _ _ _ => xg5) (zv2 S (by decide) rfl)) (q5q (i := 4) rfl (uniq (l := ["function", "sequence", "initial", "it", "value", "element"]) (by decide +kernel) rfl) rfl rfl))
 x1q))
 (q2q (qi9 (q0q (i := 4) rfl rfl rfl rfl))
 x1q))))
theorem zq8 {g : Gl} (S : Sit g) : FnOk g prog 2 (.ref 51) (xp9 g.mt) := (zj0 S).ok
noncomputable def qd1 (mt : Bool -> Nat -> Int -> Option SI) : List AV -> AM AV := fun as => (qf1 2 as).bind (qd5 [some 0, some 1] [] [] (seqM ((locM 1).bind fun v => (locM 0).bind fun a => ((xd0 70 0) a v).bind fun _ => AM.ret .next)
 (seqM ((AM.ret (.int (.lin 0 0 0))).bind fun v => (locM 0).bind fun a => ((xd0 70 1) a v).bind fun _ => AM.ret .next)
 (seqM ((u9q []).bind fun v => (locM 0).bind fun a => ((xd0 70 2) a v).bind fun _ => AM.ret .next)
 (AM.ret .next)))))
theorem ql1 {g : Gl} (S : Sit g) : qc1 g prog 1 (.ref 66) (qd1 g.mt) :=
 y8q S.G (ps := ["self", "node"]) (nm := ["self", "node"]) (cn := []) (S.X 66 _ rfl) rfl (j5q S rfl rfl rfl rfl) rfl rfl (y5q fun vs hv s => qe6 hv fun _ _ => rfl) (by decide +kernel) (by decide +kernel) (by decide +kernel) (by decide +kernel) (by decide +kernel) (by decide +kernel) rfl rfl rfl rfl rfl fun L fr =>
 (q2q (w7q (qn2 S.X (by decide) zu1) rfl (q0q (i := 1) rfl rfl rfl rfl) (q0q (i := 0) rfl rfl rfl rfl))
 (q2q (w7q (qn2 S.X (by decide) k7q) rfl j0q (q0q (i := 0) rfl rfl rfl rfl))
 (q2q (w7q (qn2 S.X (by decide) xd3) rfl (k0q q4q) (q0q (i := 0) rfl rfl rfl rfl))
 x1q)))
noncomputable def x3q (mt : Bool -> Nat -> Int -> Option SI) : List AV -> AM AV := fun as => (qf1 2 as).bind (qd5 [some 0, some 1, none] [] [] (seqM (ifM (((qe4 qw7 ((locM 0).bind (qf9 167 [95, 110, 111, 100, 101, 50, 105, 110, 102, 111])) [(locM 1)] (two zn2)).bind fun a => ((q7q 2) a).bind fun _ => AM.ret a).bind fun a => (AM.ret .none).bind fun b => ((isM false) a b).bind x6q) (seqM (((q8q [(locM 1)]).bind (ze1 (fun d => .node 70 d []) (qd1 mt))).bind fun v => ((fun v => ((locM 0).bind (qf9 167 [95, 110, 111, 100, 101, 50, 105, 110, 102, 111])).bind fun a => (locM 1).bind fun b => qz8 a b v) v).bind fun _ => ((q7q 2) v).bind fun _ => AM.ret .next)
 (AM.ret .next)) (AM.ret .next))
 (seqM (retM (locM 2))
 (AM.ret .next))))
theorem u1q {g : Gl} (S : Sit g) : qc1 g prog 3 (.ref 110) (x3q g.mt) :=
 y8q S.G (ps := ["self", "node"]) (nm := ["self", "node", "result"]) (cn := []) (S.X 110 _ rfl) rfl (j5q S rfl rfl rfl rfl) rfl rfl (y5q fun vs hv s => qe6 hv fun _ _ => rfl) (by decide +kernel) (by decide +kernel) (by decide +kernel) (by decide +kernel) (by decide +kernel) (by decide +kernel) rfl rfl rfl rfl rfl fun L fr =>
 (q2q (S_if (v5q rfl (zj1 (qe9 (zg0 PySem.F.slot_dict_get PySem.F.type_dict_get) (zg3 S.sm) (w0q (k5q (name := [95, 110, 111, 100, 101, 50, 105, 110, 102, 111]) S.X w9q) (fun _ _ _ _ h => Attribute_any_ h rfl) (q0q (i := 0) rfl rfl rfl rfl)) (q1q (q0q (i := 1) rfl rfl rfl rfl) rfl q4q) _ rfl) (q5q (i := 2) rfl (uniq (l := ["self", "node", "result"]) (by decide +kernel) rfl) rfl rfl)) qn1 (qr9 (.inl ⟨rfl, rfl⟩)) x0q) (q2q (jm8 rfl rfl (zj3 S.X zv3 je9 (ql1 S) rfl (by decide) zl0 (k9q S.G (xj9 S) rfl rfl rfl rfl) (q1q (q0q (i := 1) rfl rfl rfl rfl) rfl q4q)) (jm5 (w0q (k5q (name := [95, 110, 111, 100, 101, 50, 105, 110, 102, 111]) S.X w9q) (fun _ _ _ _ h => Attribute_any_ h rfl) (q0q (i := 0) rfl rfl rfl rfl)) (q0q (i := 1) rfl rfl rfl rfl)) (x2q (q5q (i := 2) rfl (uniq (l := ["self", "node", "result"]) (by decide +kernel) rfl) rfl rfl)))
 x1q) x1q)
 (q2q (qi9 (q0q (i := 2) rfl rfl rfl rfl))
 x1q))
theorem y2q {g : Gl} (S : Sit g) : FnOk g prog 3 (.ref 110) (x3q g.mt) := (u1q S).ok
noncomputable def u2q (mt : Bool -> Nat -> Int -> Option SI) : List AV -> AM AV := fun as => (zq1 2 as).bind (qd5 [some 0, some 1, some 2, none, none, none] [] [] (seqM (ifM (((locM 0).bind (qf9 167 [95, 114, 101, 97, 100, 121, 95, 110, 111, 100, 101, 115])).bind fun a => (AM.ret .none).bind fun b => ((isM true) a b).bind x6q) (seqM (qj0 0 [(AM.ret (.str [78, 111, 100, 101, 115, 32, 99, 97, 110, 110, 111, 116, 32, 98, 101, 32, 97, 100, 100, 101, 100, 32, 97, 102, 116, 101, 114, 32, 97, 32, 99, 97, 108, 108, 32, 116, 111, 32, 112, 114, 101, 112, 97, 114, 101, 40, 41]))])
 (AM.ret .next)) (AM.ret .next))
 (seqM (asgM (qe4 (u5q 167 [95, 103, 101, 116, 95, 110, 111, 100, 101, 105, 110, 102, 111]) (locM 0) [(locM 1)] (x3q mt)) (q7q 3))
 (seqM ((locM 3).bind fun a => ((qw9 70 1) a).bind fun b => ((q8q [(locM 2)]).bind (one lenM)).bind fun v => ((qc5 SI.add) b v).bind fun r => ((xd0 70 1) a r).bind fun _ => AM.ret .next)
 (seqM (((locM 2).bind qa8).bind fun src => forI false src (q7q 4) (seqM (asgM (qe4 (u5q 167 [95, 103, 101, 116, 95, 110, 111, 100, 101, 105, 110, 102, 111]) (locM 0) [(locM 4)] (x3q mt)) (q7q 5))
 (seqM ((qe4 u4q ((locM 5).bind (qw9 70 2)) [(locM 1)] (two qg0)).bind fun _ => AM.ret .next)
 (AM.ret .next))) 200 0)
 (AM.ret .next))))))
theorem qh4 {g : Gl} (S : Sit g) : qc1 g prog 4 (.ref 117) (u2q g.mt) :=
 y8q S.G (ps := ["self", "node", "predecessors"]) (nm := ["self", "node", "predecessors", "nodeinfo", "pred", "pred_info"]) (cn := []) (S.X 117 _ rfl) rfl (j5q S rfl rfl rfl rfl) rfl rfl (xv9 (ps := ["self", "node"]) (r := "predecessors") fun vs hv => xw8 hv (fun _ _  => rfl) (fun _ _ _ _ => rfl)) (by decide +kernel) (by decide +kernel) (by decide +kernel) (by decide +kernel) (by decide +kernel) (by decide +kernel) rfl rfl rfl rfl rfl fun L fr =>
 (q2q (S_if (v5q rfl (w0q (k5q (name := [95, 114, 101, 97, 100, 121, 95, 110, 111, 100, 101, 115]) S.X x8q) (fun _ _ _ _ h => Attribute_any_ h rfl) (q0q (i := 0) rfl rfl rfl rfl)) qn1 (qr9 (.inr ⟨rfl, rfl⟩)) x0q) (q2q (qs4 rfl rfl PySem.F.excCall_ValueError PySem.F.excRaise_ValueError (q9q S.G (y0q S) rfl (by decide +kernel) rfl rfl rfl rfl rfl) (q1q (qu4 (l := [78, 111, 100, 101, 115, 32, 99, 97, 110, 110, 111, 116, 32, 98, 101, 32, 97, 100, 100, 101, 100, 32, 97, 102, 116, 101, 114, 32, 97, 32, 99, 97, 108, 108, 32, 116, 111, 32, 112, 114, 101, 112, 97, 114, 101, 40, 41]) rfl) rfl q4q))
 x1q) x1q)
 (q2q (u8q rfl (qs6 (name := [95, 103, 101, 116, 95, 110, 111, 100, 101, 105, 110, 102, 111]) S.X qj2 (qi4 S.X qj1) (y2q S _ _ (by decide) rfl) (q0q (i := 0) rfl rfl rfl rfl) (q1q (q0q (i := 1) rfl rfl rfl rfl) rfl q4q) _ rfl) (q5q (i := 3) rfl (uniq (l := ["self", "node", "predecessors", "nodeinfo", "pred", "pred_info"]) (by decide +kernel) rfl) rfl rfl))
 (q2q (qq6 (qi7 S.X k8q) xq7 (qn2 S.X (by decide) k7q) (q0q (i := 3) rfl rfl rfl rfl) (y3q (qd2 S.sm) (q9q S.G (qd0 S) rfl (by decide +kernel) rfl rfl rfl rfl rfl) (q1q (q0q (i := 2) rfl rfl rfl rfl) rfl q4q)))
 (q2q (qh2 200 false rfl (fun _ => rfl) (fun z => nomatch z) (qf3 S.sm (q0q (i := 2) rfl rfl rfl rfl)) (x2q (q5q (i := 4) rfl (uniq (l := ["self", "node", "predecessors", "nodeinfo", "pred", "pred_info"]) (by decide +kernel) rfl) rfl rfl)) (q2q (u8q rfl (qs6 (name := [95, 103, 101, 116, 95, 110, 111, 100, 101, 105, 110, 102, 111]) S.X qj2 (qi4 S.X qj1) (y2q S _ _ (by decide) rfl) (q0q (i := 0) rfl rfl rfl rfl) (q1q (q0q (i := 4) rfl rfl rfl rfl) rfl q4q) _ rfl) (q5q (i := 5) rfl (uniq (l := ["self", "node", "predecessors", "nodeinfo", "pred", "pred_info"]) (by decide +kernel) rfl) rfl rfl))
 (q2q (u7q rfl rfl (qe9 (qe5 PySem.F.slot_list_append PySem.F.type_list_append) qb9 (w0q (qi7 S.X qh9) (fun _ _ _ _ h => Attribute_any_ h rfl) (q0q (i := 5) rfl rfl rfl rfl)) (q1q (q0q (i := 1) rfl rfl rfl rfl) rfl q4q) _ rfl))
 x1q)))
 x1q))))
end
section
variable {g : Gl} {prog : Program} {cx : Cx} {n : Nat} {K : Frag}
structure InstStar (K : Frag) (C : Addr) (name : Str) (f : Addr) : Prop where
 hg : plainGet K C name = true
 hh : hasDictIn K C = true
 ha : findIn K (.ref C) name = some (some (.ref f))
 hf : isFn K (.ref f) = true
 hgf : specialIn K (.ref f) "__get__" = some (some (.builtin "function.__get__"))
 ht : takesIn K (.ref f) = some false
 hc : copiedNames.contains name = false
theorem za3 {u : Value} {e : Expr} {p pos : Pos} {f : AM AV} (h : RefE g prog cx n e f) (he : starEach [.Starred e p] cx.env = [(true, eval e cx.env)]) :
 RefX g prog cx n TT (fun V as (x : Args) => x.kw = [] /\ reps g.ν V as x.pos) (evalArgs u true (backTo pos (starEach [.Starred e p] cx.env)) []) (f.bind xo4) := by
 rw [he]
 refine RefW.toX (T := fun A Q E s => wpAny (model prog g.w) A (eval e cx.env) (fun v s₁ => StarOf (model prog g.w) A E v (fun vs sB => Q ⟨vs, []⟩ sB) s₁) E s) (fun A Q E s h' => ks_lone h') ?_
 refine RefW.nest Mono.true h fun a v => ?_
 intro A V st s hA hp I hb Q E hq hx
 refine zb8 a v A V st s hA hp.2 I hb _ E ?_ hx
 rintro vs s₁ ⟨as, st₁, VA, eA, hr, I₁, XA⟩
 exact hq _ _ ⟨as, st₁, VA, eA, ⟨rfl, hr⟩, I₁, XA⟩
theorem za4 {u : Value} {eA eB : Expr} {p pos : Pos} {fA fB : AM AV} (h1 : RefE g prog cx n eA fA) (h2 : RefE g prog cx n eB fB)
 (he : starEach (eA :: [.Starred eB p]) cx.env = (false, eval eA cx.env) :: starEach [.Starred eB p] cx.env) (he2 : starEach (.Starred eB p :: []) cx.env = (true, eval eB cx.env) :: starEach [] cx.env) :
 RefX g prog cx n TT (fun V as (x : Args) => x.kw = [] /\ reps g.ν V as x.pos) (evalArgs u true (backTo pos (starEach [eA, .Starred eB p] cx.env)) []) (xs4 fA fB) := by
 obtain ⟨x', rest, e1, e2⟩ := w6q (pos := pos) he
 have hassoc : xs4 fA fB = fA.bind fun a => fB.bind fun c => (xo4 c).bind fun l => AM.ret (a :: l) := by
  funext st; unfold xs4 AM.bind
  induction fA st with
  | bad => rfl
  | exc => rfl
  | ok b st₁ =>
   dsimp only
   cases fB st₁ <;> rfl
 rw [hassoc]
 refine RefW.toX (T := fun A Q E s => wpAny (model prog g.w) A (eval eA cx.env) (fun v s₁ => wpAny (model prog g.w) A (eval eB cx.env) (fun x sB => StarOf (model prog g.w) A E x (fun vs sC => Q ⟨v :: vs, []⟩ sC) sB) E s₁) E s)
  (fun A Q E s h' => ?_) ?_
 . have items : wpAny (model prog g.w) A (spliced (backTo pos (starEach [eA, .Starred eB p] cx.env))) (fun vs s' => Q ⟨vs, []⟩ s') E s := by
    refine wpAny_items_cons (w3z h' (fun v s₁ h₁ => items_star (w3z h₁ (fun x sB h₂ => ?_) fun _ _ z => z) he2) fun _ _ z => z) he
    unfold StarOf at h₂ ⊢
    refine w3z h₂ (fun b sC h₃ => ⟨h₃.1, w3z h₃.2 (fun vs sD h₄ => wpAny_items_nil ?_) fun _ _ z => z⟩) fun _ _ z => z
    rw [List.append_nil]
    exact h₄
   rw [e1] at items ⊢
   exact evalArgs_plain items
 . refine RefW.nest Mono.true h1 fun a v => ?_
   refine RefW.nest (Mono.and Mono.true (z6q _ _ _)) (h2.weak fun _ _ => trivial) fun c x => ?_
   intro A V st s hA hp I hb Q E hq hx
   have hb1 : xo4 c st ≠ .bad := x5q hb
   refine zb8 c x A V st s hA hp.2 I hb1 _ E ?_ ?_
   . rintro vs s₁ ⟨as, st₁, VA, eA, hr, I₁, XA⟩
     exact hq _ _ ⟨a :: as, st₁, VA, w1q eA, ⟨rfl, hp.1.2.mono XA.pre, hr⟩, I₁, XA⟩
   . rintro w sB ⟨k, stB, VB, eB, hrB, IB, XB⟩
     exact hx _ _ ⟨k, stB, VB, by unfold AM.bind; rw [eB], hrB, IB, XB⟩
end
section
variable {M : Model} {prog : Program} {w : World} {A : Around} {E : VP} {s : Shared}
theorem xg4 {q fa x : Addr} {pos : Pos} {args : List (Bool × Sem Value)} {Q : VP} (hst : args.any (·.1) = true)
 (h : wpAny (model prog w) A (evalArgs (.ref q) true args []) (fun a s₁ => (s₁.heap.get? q = some (methodObj (.ref fa) (.ref x)) /\ ∃ o fd, s₁.heap.get? fa = some o /\ o.data = .func fd) /\ wpAny (model prog w) A (call (.ref q) a.pos a.kw) Q E s₁) E s) :
 wpAny (model prog w) A (callWith pos (.ref q) [] args []) Q E s := by
 unfold callWith
 refine w0z (w8z (w3z h (fun a s₁ h₁ => w0z (wpAny_standAt ?_)) fun _ _ x => x))
 obtain ⟨⟨hq, o, fd, ho, hd⟩, hcall⟩ := h₁
 simp only [hst, Bool.true_or, List.nil_append]
 refine w0z (m := keeperOf (.ref q)) ?_
 unfold keeperOf
 refine w0z (wpAny_load hq ?_)
 show wpAny _ _ (if (Value.type "method" != Value.type "method") = true then _ else _) _ _ _
 rw [if_neg (by decide)]
 show wpAny _ _ (load fa >>= _) _ _ _
 refine w0z (wpAny_load ho ?_)
 rw [hd]
 refine w2z ?_
 exact w0z (wpAny_operating (w3z hcall (fun r sB hr => w0z (w8z (wpAny_point (w2z hr)))) fun _ _ x => x))
theorem zh8 {q fa x : Addr} {vs : List Value} {Q : VP} (hq : s.heap.get? q = some (methodObj (.ref fa) (.ref x)))
 (h : codeAny (model prog w) A (.call (.ref fa) ⟨.ref x :: vs, []⟩) (fun r s' => match r with | .ok (.ret v) => Q v s' | .ok _ => False | .error e => E e s') s) : wpAny (model prog w) A (call (.ref q) vs) Q E s := by
 refine wpAny_call (codeAny_of_tree ?_)
 show wpAny _ A.in1 (callAny (.ref q) ⟨vs, []⟩) _ _ s
 simp only [callAny]
 refine w0z (wpAny_load hq ?_)
 show wpAny _ _ (if (Value.type "method" == Value.type "method" || Value.type "method" == Value.type "builtin_function_or_method" || Value.type "method" == Value.type "method-wrapper") = true then _ else _) _ _ _
 rw [if_pos (by decide)]
 exact w2z ⟨rfl, h⟩
end
section
variable {g : Gl} {prog : Program} {cx : Cx} {n : Nat} {K : Frag}
theorem xn9 {o : Expr} {name : List Nat} {apos pos : Pos} {es : List Expr} {f : AM AV} {fa' : AM (List AV)} {C fa : Addr} {d : Nat} {F : List AV -> AM AV} (X : K.In g.U) (M : InstStar K C ⟨name.toArray⟩ fa) (hfd : ∃ o fd, g.U.get? fa = some o /\ o.data = .func fd) (hF : qc1 g prog d (.ref fa) F) (hd : d <= n) (hq : cx.q = true)
 (hst : (backTo pos (starEach es cx.env)).any (·.1) = true) (h : RefE g prog cx n o f) (hargs : ∀ u, RefX g prog cx n TT (fun V as (x : Args) => x.kw = [] /\ reps g.ν V as x.pos) (evalArgs u true (backTo pos (starEach es cx.env)) []) fa')
 (he : eval (.Call (.Attribute o ⟨name.toArray⟩ apos) es [] pos) cx.env = (do
  let ov <- eval o cx.env
  standAt apos.atName
  let (f, first) <- holding [ov] (do let v <- getAttr ov ⟨name.toArray⟩ true; pure (v, ([] : List Value)))
  let p <- pure pos
  callWith p f first (backTo pos (starEach es cx.env)) [])) : RefE g prog cx n (.Call (.Attribute o ⟨name.toArray⟩ apos) es [] pos) (f.bind fun a => qx6 (u5q C name) a (fa'.bind fun as => F (a :: as))) := by
 refine RefW.toX (T := fun A Q E s => wpAny (model prog g.w) A (eval o cx.env) (fun ov s₁ => wpAny (model prog g.w) A (getAttr ov ⟨name.toArray⟩ true) (fun v sB => wpAny (model prog g.w) A (callWith pos v [] (backTo pos (starEach es cx.env)) []) Q E sB) E s₁) E s)
  (fun A Q E s h' => ?_) ?_
 . rw [he]
   refine w0z (w3z h' (fun ov s₁ h₁ => w0z (wpAny_standAt (w0z (w8z (w0z (w3z h₁ (fun v sB h₂ => w2z ?_) fun _ _ z => z)))))) fun _ _ z => z)
   exact w0z (w2z h₂)
 refine RefW.nest Mono.true h fun a u => ?_
 intro A V st s hA hp I hb Q E hq' hx
 unfold qx6 at hb hq' hx
 induction hkk : u5q C name a st with
 | false => rw [hkk] at hb; exact q3q hb
 | true =>
  rw [hkk] at hb hq' hx
  obtain ⟨i, d', es', ep, rfl, e1, e2, e3⟩ := xb5 hkk
  obtain ⟨y, oy, rfl, hy, ho, ⟨dx, hdx, rfl⟩⟩ := I.obj e1 hp.2
  obtain ⟨D', oD, hD1, hD2, ⟨fs, r1, r2, rfl⟩⟩ := I.heap d' _ e2
  rw [hdx] at hD1; obtain rfl := w4z hD1
  have IA : InstAt s.heap y ⟨.ref C, some dx, .plain, #[]⟩ C (some (dictOf fs ep)) := ⟨ho, rfl, rfl, hD2⟩
  have hl : lookIn ⟨name.toArray⟩ (dictOf fs ep) = some none := by
   have := qv5 name r1
   unfold z4q at this
   rw [e3] at this
   rw [lookIn_dict]
   unfold getL
   induction q : fs.find? fun e => e.key.isStr ⟨name.toArray⟩ with
   | some x => rw [q] at this; exact this.elim
   | none =>
    have hr := qv7 r1
    rw [<- Array.any_toList] at hr
    dsimp only
    rw [if_neg (by simpa using hr)]
  have XX := X.keeps I.base
  refine get_bind XX IA (plainGet_of M.hg).1 (findObj_fn M.hh M.ha M.hgf M.ht M.hc hl) (plainGet_of M.hg).2
   (wpAny_call (fn_get (s := { s with toks := s.toks + 1 }) XX (beq_iff_eq.mp M.hf) (handed_on rfl ?_)))
  have G1 := I.grow (h' := s.heap.push (methodObj (.ref fa) (.ref y))) (s.toks + 1) fun b o e => w6z _ e
  have hqq := Heap.get?_push_size s.heap (o := methodObj (.ref fa) (.ref y)) rfl
  refine xg4 (fa := fa) (x := y) hst (w3z (Q := QOk g cx V _ _ _) (E := EOk g cx V _ _) (hargs (.ref s.heap.objs.size) A V st _ hA trivial G1.1 (x5q hb)) ?_ ?_)
  . rintro ⟨xpos, xkw⟩ s₁ ⟨as, st₁, VA, eA, ⟨hk, hr⟩, I₁, XA⟩
    obtain rfl : xkw = [] := hk
    rw [w1q eA] at hb hq' hx
    have nn := I.none_of (z0q s)
    have hq1 : s₁.heap.get? s.heap.objs.size = some (methodObj (.ref fa) (.ref y)) := (XA.keep _ _ hqq nn.2.2.2 nn.2.1).1 nn.2.2.1
    obtain ⟨of, fd, hof, hfd'⟩ := hfd
    refine ⟨⟨hq1, of, fd, I₁.base _ _ hof, hfd'⟩, zh8 hq1 ?_⟩
    have X02 := G1.2.trans XA
    have hy1 : repV g.ν VA (.ref i) (.ref y) := ⟨y, XA.pre.get hy, rfl⟩
    refine codeAny_mono (hF cx n hd hq (.ref i :: as) (.ref y :: xpos) A VA st₁ s₁ hA ⟨hy1, hr⟩ I₁ hb) ?_
    rintro r sB hR
    induction r with
    | ok fl =>
     induction fl with
     | ret v =>
      obtain ⟨b, stB, VB, eB, hrB, IB, XB⟩ := hR
      exact hq' _ _ ⟨b, stB, VB, eB, hrB, IB, X02.trans XB⟩
     | next => exact hR
     | brk => exact hR
     | cont => exact hR
    | error e =>
     obtain ⟨k, stB, VB, eB, hrB, IB, XB⟩ := hR
     exact hx _ _ ⟨k, stB, VB, eB, hrB.mono X02 XB.pre, IB, X02.trans XB⟩
  . rintro w sB ⟨k, stB, VB, eB, hrB, IB, XB⟩
    exact hx _ _ ⟨k, stB, VB, by unfold AM.bind; rw [eB], hrB.mono G1.2 XB.pre, IB, G1.2.trans XB⟩
end
section
variable {P : PySem.Params}
theorem jg4 : InstStar (KK P) 167 "add" 117 := ⟨by rfl, by rfl, by rfl, by rfl, by rfl, by rfl, by rfl⟩
theorem zt4 : InstStar (KK P) 167 "done" 150 := ⟨by rfl, by rfl, by rfl, by rfl, by rfl, by rfl, by rfl⟩
end
section
variable {prog : Program}
noncomputable def w3q (mt : Bool -> Nat -> Int -> Option SI) : List AV -> AM AV := fun as => (qf1 2 as).bind (qd5 [some 0, some 1, none, none] [] [] (seqM ((newM (.dict [] 0)).bind fun v => (locM 0).bind fun a => ((xd2 167 [95, 110, 111, 100, 101, 50, 105, 110, 102, 111]) a v).bind fun _ => AM.ret .next)
 (seqM ((AM.ret .none).bind fun v => (locM 0).bind fun a => ((xd2 167 [95, 114, 101, 97, 100, 121, 95, 110, 111, 100, 101, 115]) a v).bind fun _ => AM.ret .next)
 (seqM ((AM.ret (.int (.lin 0 0 0))).bind fun v => (locM 0).bind fun a => ((xd2 167 [95, 110, 112, 97, 115, 115, 101, 100, 111, 117, 116]) a v).bind fun _ => AM.ret .next)
 (seqM ((AM.ret (.int (.lin 0 0 0))).bind fun v => (locM 0).bind fun a => ((xd2 167 [95, 110, 102, 105, 110, 105, 115, 104, 101, 100]) a v).bind fun _ => AM.ret .next)
 (seqM (ifM ((locM 1).bind fun a => (AM.ret .none).bind fun b => ((isM true) a b).bind x6q) (seqM (((locM 1).bind (qs9 .items)).bind fun src => forI true src (qd9 [(q7q 2), (q7q 3)]) (seqM (((locM 0).bind fun a => qx6 (u5q 167 [97, 100, 100]) a ((xs4 (locM 2) (locM 3)).bind fun as => u2q mt (a :: as))).bind fun _ => AM.ret .next)
 (AM.ret .next)) 200 0)
 (AM.ret .next)) (AM.ret .next))
 (AM.ret .next)))))))
theorem qc8 {g : Gl} (S : Sit g) : qc1 g prog 5 (.ref 103) (w3q g.mt) :=
 y8q S.G (ps := ["self", "graph"]) (nm := ["self", "graph", "node", "predecessors"]) (cn := []) (S.X 103 _ rfl) rfl (j5q S rfl rfl rfl rfl) rfl rfl (xm2 S.X fun vs hv s X => za1 hv fun _ _ => kp_binds X fun _ => rfl) (by decide +kernel) (by decide +kernel) (by decide +kernel) (by decide +kernel) (by decide +kernel) (by decide +kernel) rfl rfl rfl rfl rfl fun L fr =>
 (q2q (w7q (qn3 (name := [95, 110, 111, 100, 101, 50, 105, 110, 102, 111]) S.X xe8) rfl xi3 (q0q (i := 0) rfl rfl rfl rfl))
 (q2q (w7q (qn3 (name := [95, 114, 101, 97, 100, 121, 95, 110, 111, 100, 101, 115]) S.X qk1) rfl qn1 (q0q (i := 0) rfl rfl rfl rfl))
 (q2q (w7q (qn3 (name := [95, 110, 112, 97, 115, 115, 101, 100, 111, 117, 116]) S.X qm7) rfl j0q (q0q (i := 0) rfl rfl rfl rfl))
 (q2q (w7q (qn3 (name := [95, 110, 102, 105, 110, 105, 115, 104, 101, 100]) S.X qp7) rfl j0q (q0q (i := 0) rfl rfl rfl rfl))
 (q2q (S_if (v5q rfl (q0q (i := 1) rfl rfl rfl rfl) qn1 (qr9 (.inr ⟨rfl, rfl⟩)) x0q) (q2q (qh2 200 true rfl (fun _ => rfl) (fun _ => ⟨_, _, _, rfl⟩) (jf7 S.sm (q0q (i := 1) rfl rfl rfl rfl) _ rfl) (qd6 rfl (j6q (x2q (q5q (i := 2) rfl (uniq (l := ["self", "graph", "node", "predecessors"]) (by decide +kernel) rfl) rfl rfl)) rfl (j6q (x2q (q5q (i := 3) rfl (uniq (l := ["self", "graph", "node", "predecessors"]) (by decide +kernel) rfl) rfl rfl)) rfl qi8))) (q2q (u7q rfl rfl (xn9 (name := [97, 100, 100]) S.X jg4 ⟨_, _, S.X 117 _ rfl, rfl⟩ (qh4 S) (by decide) rfl rfl (q0q (i := 0) rfl rfl rfl rfl) (fun u => za4 (q0q (i := 2) rfl rfl rfl rfl) (q0q (i := 3) rfl rfl rfl rfl) rfl rfl) rfl))
 x1q))
 x1q) x1q)
 x1q)))))
noncomputable def z2q (mt : Bool -> Nat -> Int -> Option SI) : List AV -> AM AV := fun as => (qf1 1 as).bind (qd5 [some 0, none, none, none, none, none, none] [] [] (seqM (asgM ((locM 0).bind (qf9 167 [95, 110, 111, 100, 101, 50, 105, 110, 102, 111])) (q7q 1))
 (seqM (asgM (u9q []) (q7q 2))
 (seqM (asgM (u9q []) (q7q 3))
 (seqM (asgM ((q8q []).bind (jg6)) (q7q 4))
 (seqM (asgM (newM (.dict [] 0)) (q7q 5))
 (seqM (((locM 1).bind qa8).bind fun src => forI false src (q7q 6) (seqM (ifM ((locM 6).bind fun a => (locM 4).bind fun b => ((memM false) a b).bind x6q) (seqM (AM.ret .cont)
 (AM.ret .next)) (AM.ret .next))
 (seqM (qd8 ((AM.ret (.bool true)).bind x6q) (seqM (ifM ((locM 6).bind fun a => (locM 4).bind fun b => ((memM false) a b).bind x6q) (seqM (ifM ((locM 6).bind fun a => (locM 5).bind fun b => ((memM false) a b).bind x6q) (seqM (retM (bin2 ((locM 2).bind fun a => (bin2 (locM 5) (locM 6) subM).bind fun b => (AM.ret .none).bind fun c => qv2 a b c) (u9q [(locM 6)]) addM))
 (AM.ret .next)) (AM.ret .next))
 (AM.ret .next)) (seqM ((qe4 zf2 (locM 4) [(locM 6)] (two jf4)).bind fun _ => AM.ret .next)
 (seqM ((qe4 u4q (locM 3) [(((q8q [((bin2 (locM 1) (locM 6) subM).bind (qw9 70 2))]).bind (one xu4)).bind qv8)] (two qg0)).bind fun _ => AM.ret .next)
 (seqM (((q8q [(locM 2)]).bind (one lenM)).bind fun v => (locM 5).bind fun a => (locM 6).bind fun b => (qz8 a b v).bind fun _ => AM.ret .next)
 (seqM ((qe4 u4q (locM 2) [(locM 6)] (two qg0)).bind fun _ => AM.ret .next)
 (AM.ret .next))))))
 (seqM (qd8 ((locM 2).bind x6q) (seqM (tryM 1 (seqM (asgM ((bin2 (locM 3) (AM.ret (.int (.lin (-1) 0 0))) subM).bind qq3) (q7q 6))
 (seqM (AM.ret .brk)
 (AM.ret .next))) (seqM ((locM 5).bind fun a => (qe4 u4q (locM 2) [] (one popM)).bind fun b => (zo5 a b).bind fun _ => AM.ret .next)
 (seqM ((qe4 u4q (locM 3) [] (one popM)).bind fun _ => AM.ret .next)
 (AM.ret .next))))
 (AM.ret .next)) (seqM (AM.ret .brk)
 (AM.ret .next)) 200)
 (AM.ret .next))) (AM.ret .next) 200)
 (AM.ret .next))) 200 0)
 (seqM (retM (AM.ret .none))
 (AM.ret .next)))))))))
theorem qa0 {g : Gl} (S : Sit g) : qc1 g prog 1 (.ref 157) (z2q g.mt) :=
 y8q S.G (ps := ["self"]) (nm := ["self", "n2i", "stack", "itstack", "seen", "node2stacki", "node"]) (cn := []) (S.X 157 _ rfl) rfl (j5q S rfl rfl rfl rfl) rfl rfl (y5q fun vs hv s => x9q hv fun _ => rfl) (by decide +kernel) (by decide +kernel) (by decide +kernel) (by decide +kernel) (by decide +kernel) (by decide +kernel) rfl rfl rfl rfl rfl fun L fr =>
 (q2q (u8q rfl (w0q (k5q (name := [95, 110, 111, 100, 101, 50, 105, 110, 102, 111]) S.X w9q) (fun _ _ _ _ h => Attribute_any_ h rfl) (q0q (i := 0) rfl rfl rfl rfl)) (q5q (i := 1) rfl (uniq (l := ["self", "n2i", "stack", "itstack", "seen", "node2stacki", "node"]) (by decide +kernel) rfl) rfl rfl))
 (q2q (u8q rfl (k0q q4q) (q5q (i := 2) rfl (uniq (l := ["self", "n2i", "stack", "itstack", "seen", "node2stacki", "node"]) (by decide +kernel) rfl) rfl rfl))
 (q2q (u8q rfl (k0q q4q) (q5q (i := 3) rfl (uniq (l := ["self", "n2i", "stack", "itstack", "seen", "node2stacki", "node"]) (by decide +kernel) rfl) rfl rfl))
 (q2q (u8q rfl (ql2 zt5 (q9q S.G (ji6 S) rfl (by decide +kernel) rfl rfl rfl rfl rfl) q4q) (q5q (i := 4) rfl (uniq (l := ["self", "n2i", "stack", "itstack", "seen", "node2stacki", "node"]) (by decide +kernel) rfl) rfl rfl))
 (q2q (u8q rfl xi3 (q5q (i := 5) rfl (uniq (l := ["self", "n2i", "stack", "itstack", "seen", "node2stacki", "node"]) (by decide +kernel) rfl) rfl rfl))
 (q2q (qh2 200 false rfl (fun _ => rfl) (fun z => nomatch z) (qf3 S.sm (q0q (i := 1) rfl rfl rfl rfl)) (x2q (q5q (i := 6) rfl (uniq (l := ["self", "n2i", "stack", "itstack", "seen", "node2stacki", "node"]) (by decide +kernel) rfl) rfl rfl)) (q2q (S_if (v5q rfl (q0q (i := 6) rfl rfl rfl rfl) (q0q (i := 4) rfl rfl rfl rfl) (zx0 S.sm) x0q) (q2q jm6
 x1q) x1q)
 (q2q (xh3 200 (za6 rfl zj4 x0q) (q2q (S_if (v5q rfl (q0q (i := 6) rfl rfl rfl rfl) (q0q (i := 4) rfl rfl rfl rfl) (zx0 S.sm) x0q) (q2q (S_if (v5q rfl (q0q (i := 6) rfl rfl rfl rfl) (q0q (i := 5) rfl rfl rfl rfl) (zx0 S.sm) x0q) (q2q (qi9 (qf0 (qy7 (q0q (i := 2) rfl rfl rfl rfl) (xn0 (k3q (fun _ _ => ⟨_, rfl⟩) (q0q (i := 5) rfl rfl rfl rfl) (q0q (i := 6) rfl rfl rfl rfl))) xn1) (k0q (q1q (q0q (i := 6) rfl rfl rfl rfl) rfl q4q)) add_ok))
 x1q) x1q)
 x1q) (q2q (u7q rfl rfl (qe9 jk7 jf3 (q0q (i := 4) rfl rfl rfl rfl) (q1q (q0q (i := 6) rfl rfl rfl rfl) rfl q4q) _ rfl))
 (q2q (u7q rfl rfl (qe9 (qe5 PySem.F.slot_list_append PySem.F.type_list_append) qb9 (q0q (i := 3) rfl rfl rfl rfl) (q1q (w0q xp7 (fun _ _ _ _ h => Attribute_any_ h rfl) (y3q xu3 (q9q S.G (zd9 S) rfl (by decide +kernel) rfl rfl rfl rfl rfl) (q1q (w0q (qi7 S.X qh9) (fun _ _ _ _ h => Attribute_any_ h rfl) (k3q (fun _ _ => ⟨_, rfl⟩) (q0q (i := 1) rfl rfl rfl rfl) (q0q (i := 6) rfl rfl rfl rfl))) rfl q4q))) rfl q4q) _ rfl))
 (q2q (xm7 rfl (y3q (qd2 S.sm) (q9q S.G (qd0 S) rfl (by decide +kernel) rfl rfl rfl rfl rfl) (q1q (q0q (i := 2) rfl rfl rfl rfl) rfl q4q)) (q0q (i := 5) rfl rfl rfl rfl) (q0q (i := 6) rfl rfl rfl rfl))
 (q2q (u7q rfl rfl (qe9 (qe5 PySem.F.slot_list_append PySem.F.type_list_append) qb9 (q0q (i := 2) rfl rfl rfl rfl) (q1q (q0q (i := 6) rfl rfl rfl rfl) rfl q4q) _ rfl))
 x1q)))))
 (q2q (xh3 200 (za6 rfl (q0q (i := 2) rfl rfl rfl rfl) x0q) (q2q (jf5 (k := 1) ⟨_, _, _, rfl, rfl, rfl⟩ qn9 (q2q (u8q rfl (xr8 rfl rfl (k3q (fun _ _ => ⟨_, rfl⟩) (q0q (i := 3) rfl rfl rfl rfl) jn1)) (q5q (i := 6) rfl (uniq (l := ["self", "n2i", "stack", "itstack", "seen", "node2stacki", "node"]) (by decide +kernel) rfl) rfl rfl))
 (q2q jm7
 x1q)) (q9q S.G (qt9 S) rfl (by decide +kernel) rfl rfl rfl rfl rfl) (q2q (zq4 (q0q (i := 5) rfl rfl rfl rfl) (qe9 (qe5 PySem.F.slot_list_pop PySem.F.type_list_pop) zr3 (q0q (i := 2) rfl rfl rfl rfl) q4q _ rfl))
 (q2q (u7q rfl rfl (qe9 (qe5 PySem.F.slot_list_pop PySem.F.type_list_pop) zr3 (q0q (i := 3) rfl rfl rfl rfl) q4q _ rfl))
 x1q)))
 x1q) (q2q jm7
 x1q))
 x1q)) x1q)
 x1q)))
 (q2q (qi9 qn1)
 x1q)))))))
theorem qa4 {g : Gl} (S : Sit g) : FnOk g prog 1 (.ref 157) (z2q g.mt) := (qa0 S).ok
noncomputable def j4q (mt : Bool -> Nat -> Int -> Option SI) : List AV -> AM AV := fun as => (qf1 1 as).bind (qd5 [some 0, none] [] [] (seqM (ifM (((locM 0).bind (qf9 167 [95, 114, 101, 97, 100, 121, 95, 110, 111, 100, 101, 115])).bind fun a => (AM.ret .none).bind fun b => ((isM true) a b).bind x6q) (seqM (qj0 0 [(AM.ret (.str [99, 97, 110, 110, 111, 116, 32, 112, 114, 101, 112, 97, 114, 101, 40, 41, 32, 109, 111, 114, 101, 32, 116, 104, 97, 110, 32, 111, 110, 99, 101]))])
 (AM.ret .next)) (AM.ret .next))
 (seqM (((((locM 0).bind (qf9 167 [95, 110, 111, 100, 101, 50, 105, 110, 102, 111])).bind (qs9 .vals)).bind (v4q (.list []) 1 [] 200 false (q7q 0) (((locM 0).bind (qw9 70 1)).bind fun a => (AM.ret (.int (.lin 0 0 0))).bind fun b => ((eqM false) a b).bind x6q) (qk3 ((locM 0).bind (qw9 70 0))))).bind fun v => (locM 0).bind fun a => ((xd2 167 [95, 114, 101, 97, 100, 121, 95, 110, 111, 100, 101, 115]) a v).bind fun _ => AM.ret .next)
 (seqM (asgM (qe4 (u5q 167 [95, 102, 105, 110, 100, 95, 99, 121, 99, 108, 101]) (locM 0) [] (z2q mt)) (q7q 1))
 (seqM (ifM ((locM 1).bind x6q) (seqM (qj0 85 [(AM.ret (.str [110, 111, 100, 101, 115, 32, 97, 114, 101, 32, 105, 110, 32, 97, 32, 99, 121, 99, 108, 101])), (locM 1)])
 (AM.ret .next)) (AM.ret .next))
 (AM.ret .next))))))
theorem qd7 {g : Gl} (S : Sit g) : qc1 g prog 2 (.ref 122) (j4q g.mt) :=
 y8q S.G (ps := ["self"]) (nm := ["self", "cycle"]) (cn := []) (S.X 122 _ rfl) rfl (j5q S rfl rfl rfl rfl) rfl rfl (y5q fun vs hv s => x9q hv fun _ => rfl) (by decide +kernel) (by decide +kernel) (by decide +kernel) (by decide +kernel) (by decide +kernel) (by decide +kernel) rfl rfl rfl rfl rfl fun L fr =>
 (q2q (S_if (v5q rfl (w0q (k5q (name := [95, 114, 101, 97, 100, 121, 95, 110, 111, 100, 101, 115]) S.X x8q) (fun _ _ _ _ h => Attribute_any_ h rfl) (q0q (i := 0) rfl rfl rfl rfl)) qn1 (qr9 (.inr ⟨rfl, rfl⟩)) x0q) (q2q (qs4 rfl rfl PySem.F.excCall_ValueError PySem.F.excRaise_ValueError (q9q S.G (y0q S) rfl (by decide +kernel) rfl rfl rfl rfl rfl) (q1q (qu4 (l := [99, 97, 110, 110, 111, 116, 32, 112, 114, 101, 112, 97, 114, 101, 40, 41, 32, 109, 111, 114, 101, 32, 116, 104, 97, 110, 32, 111, 110, 99, 101]) rfl) rfl q4q))
 x1q) x1q)
 (q2q (w7q (qn3 (name := [95, 114, 101, 97, 100, 121, 95, 110, 111, 100, 101, 115]) S.X qk1) rfl (j9q (j8q (nm := ["i"]) (cn := []) (cj := []) (tup := false) (fun _ => rfl) (closureFor_none (by decide +kernel)) rfl (by decide +kernel) (by decide +kernel) .nil (fun z => nomatch z) (fun _ => (x2q (q5q (i := 0) rfl (uniq (l := ["i"]) (by decide +kernel) rfl) rfl rfl))) (fun _ => (zi8 (v5q rfl (w0q (qi7 S.X k8q) (fun _ _ _ _ h => Attribute_any_ h rfl) (q0q (i := 0) rfl rfl rfl rfl)) j0q xl5 x0q))) (fun _ => (w0q (qi7 S.X zu2) (fun _ _ _ _ h => Attribute_any_ h rfl) (q0q (i := 0) rfl rfl rfl rfl)))) ⟨_, _, _, rfl, rfl, rfl⟩ rfl 200 (zq7 S.sm (w0q (k5q (name := [95, 110, 111, 100, 101, 50, 105, 110, 102, 111]) S.X w9q) (fun _ _ _ _ h => Attribute_any_ h rfl) (q0q (i := 0) rfl rfl rfl rfl)) _ rfl)) (q0q (i := 0) rfl rfl rfl rfl))
 (q2q (u8q rfl (qs6 (name := [95, 102, 105, 110, 100, 95, 99, 121, 99, 108, 101]) S.X qz7 (qi4 S.X qz5) (qa4 S _ _ (by decide) rfl) (q0q (i := 0) rfl rfl rfl rfl) q4q _ rfl) (q5q (i := 1) rfl (uniq (l := ["self", "cycle"]) (by decide +kernel) rfl) rfl rfl))
 (q2q (S_if (za6 rfl (q0q (i := 1) rfl rfl rfl rfl) x0q) (q2q (zq2 PySem.F.excBase_ValueError (xj5 S) (by decide +kernel) rfl rfl (k9q S.G (qp3 S) rfl rfl rfl rfl) (q1q (zq9 (qu4 (l := [110, 111, 100, 101, 115, 32, 97, 114, 101, 32, 105, 110, 32, 97, 32, 99, 121, 99, 108, 101]) rfl)) rfl (q1q (q0q (i := 1) rfl rfl rfl rfl) rfl q4q)))
 x1q) x1q)
 x1q))))
theorem qe8 {g : Gl} (S : Sit g) : FnOk g prog 2 (.ref 122) (j4q g.mt) := (qd7 S).ok
noncomputable def z9q (mt : Bool -> Nat -> Int -> Option SI) : List AV -> AM AV := fun as => (qf1 1 as).bind (qd5 [some 0, none, none, none] [] [] (seqM (ifM (((locM 0).bind (qf9 167 [95, 114, 101, 97, 100, 121, 95, 110, 111, 100, 101, 115])).bind fun a => (AM.ret .none).bind fun b => ((isM false) a b).bind x6q) (seqM (qj0 0 [(AM.ret (.str [112, 114, 101, 112, 97, 114, 101, 40, 41, 32, 109, 117, 115, 116, 32, 98, 101, 32, 99, 97, 108, 108, 101, 100, 32, 102, 105, 114, 115, 116]))])
 (AM.ret .next)) (AM.ret .next))
 (seqM (asgM ((q8q [((locM 0).bind (qf9 167 [95, 114, 101, 97, 100, 121, 95, 110, 111, 100, 101, 115]))]).bind (one xo3)) (q7q 1))
 (seqM (asgM ((locM 0).bind (qf9 167 [95, 110, 111, 100, 101, 50, 105, 110, 102, 111])) (q7q 2))
 (seqM (((locM 1).bind qa8).bind fun src => forI false src (q7q 3) (seqM ((AM.ret (.int (.lin (-1) 0 0))).bind fun v => (bin2 (locM 2) (locM 3) subM).bind fun a => ((xd0 70 1) a v).bind fun _ => AM.ret .next)
 (AM.ret .next)) 200 0)
 (seqM ((qe4 u4q ((locM 0).bind (qf9 167 [95, 114, 101, 97, 100, 121, 95, 110, 111, 100, 101, 115])) [] (one zh6)).bind fun _ => AM.ret .next)
 (seqM ((locM 0).bind fun a => ((qf9 167 [95, 110, 112, 97, 115, 115, 101, 100, 111, 117, 116]) a).bind fun b => ((q8q [(locM 1)]).bind (one lenM)).bind fun v => ((qc5 SI.add) b v).bind fun r => ((xd2 167 [95, 110, 112, 97, 115, 115, 101, 100, 111, 117, 116]) a r).bind fun _ => AM.ret .next)
 (seqM (retM (locM 1))
 (AM.ret .next)))))))))
theorem qc3 {g : Gl} (S : Sit g) : qc1 g prog 1 (.ref 129) (z9q g.mt) :=
 y8q S.G (ps := ["self"]) (nm := ["self", "result", "n2i", "node"]) (cn := []) (S.X 129 _ rfl) rfl (j5q S rfl rfl rfl rfl) rfl rfl (y5q fun vs hv s => x9q hv fun _ => rfl) (by decide +kernel) (by decide +kernel) (by decide +kernel) (by decide +kernel) (by decide +kernel) (by decide +kernel) rfl rfl rfl rfl rfl fun L fr =>
 (q2q (S_if (v5q rfl (w0q (k5q (name := [95, 114, 101, 97, 100, 121, 95, 110, 111, 100, 101, 115]) S.X x8q) (fun _ _ _ _ h => Attribute_any_ h rfl) (q0q (i := 0) rfl rfl rfl rfl)) qn1 (qr9 (.inl ⟨rfl, rfl⟩)) x0q) (q2q (qs4 rfl rfl PySem.F.excCall_ValueError PySem.F.excRaise_ValueError (q9q S.G (y0q S) rfl (by decide +kernel) rfl rfl rfl rfl rfl) (q1q (qu4 (l := [112, 114, 101, 112, 97, 114, 101, 40, 41, 32, 109, 117, 115, 116, 32, 98, 101, 32, 99, 97, 108, 108, 101, 100, 32, 102, 105, 114, 115, 116]) rfl) rfl q4q))
 x1q) x1q)
 (q2q (u8q rfl (ql2 zb0 (q9q S.G (zl6 S) rfl (by decide +kernel) rfl rfl rfl rfl rfl) (q1q (w0q (k5q (name := [95, 114, 101, 97, 100, 121, 95, 110, 111, 100, 101, 115]) S.X x8q) (fun _ _ _ _ h => Attribute_any_ h rfl) (q0q (i := 0) rfl rfl rfl rfl)) rfl q4q)) (q5q (i := 1) rfl (uniq (l := ["self", "result", "n2i", "node"]) (by decide +kernel) rfl) rfl rfl))
 (q2q (u8q rfl (w0q (k5q (name := [95, 110, 111, 100, 101, 50, 105, 110, 102, 111]) S.X w9q) (fun _ _ _ _ h => Attribute_any_ h rfl) (q0q (i := 0) rfl rfl rfl rfl)) (q5q (i := 2) rfl (uniq (l := ["self", "result", "n2i", "node"]) (by decide +kernel) rfl) rfl rfl))
 (q2q (qh2 200 false rfl (fun _ => rfl) (fun z => nomatch z) (qf3 S.sm (q0q (i := 1) rfl rfl rfl rfl)) (x2q (q5q (i := 3) rfl (uniq (l := ["self", "result", "n2i", "node"]) (by decide +kernel) rfl) rfl rfl)) (q2q (w7q (qn2 S.X (by decide) k7q) rfl (xi2 S.G (qt2 S).choose_spec rfl rfl rfl rfl) (k3q (fun _ _ => ⟨_, rfl⟩) (q0q (i := 2) rfl rfl rfl rfl) (q0q (i := 3) rfl rfl rfl rfl)))
 x1q))
 (q2q (u7q rfl rfl (qe9 (qe5 PySem.F.slot_list_clear PySem.F.type_list_clear) zo9 (w0q (k5q (name := [95, 114, 101, 97, 100, 121, 95, 110, 111, 100, 101, 115]) S.X x8q) (fun _ _ _ _ h => Attribute_any_ h rfl) (q0q (i := 0) rfl rfl rfl rfl)) q4q _ rfl))
 (q2q (qq6 (k5q (name := [95, 110, 112, 97, 115, 115, 101, 100, 111, 117, 116]) S.X qm8) xq7 (qn3 (name := [95, 110, 112, 97, 115, 115, 101, 100, 111, 117, 116]) S.X qm7) (q0q (i := 0) rfl rfl rfl rfl) (y3q (qd2 S.sm) (q9q S.G (qd0 S) rfl (by decide +kernel) rfl rfl rfl rfl rfl) (q1q (q0q (i := 1) rfl rfl rfl rfl) rfl q4q)))
 (q2q (qi9 (q0q (i := 1) rfl rfl rfl rfl))
 x1q)))))))
theorem qc7 {g : Gl} (S : Sit g) : FnOk g prog 1 (.ref 129) (z9q g.mt) := (qc3 S).ok
noncomputable def z8q (mt : Bool -> Nat -> Int -> Option SI) : List AV -> AM AV := fun as => (qf1 1 as).bind (qd5 [some 0] [] [] (seqM (ifM (((locM 0).bind (qf9 167 [95, 114, 101, 97, 100, 121, 95, 110, 111, 100, 101, 115])).bind fun a => (AM.ret .none).bind fun b => ((isM false) a b).bind x6q) (seqM (qj0 0 [(AM.ret (.str [112, 114, 101, 112, 97, 114, 101, 40, 41, 32, 109, 117, 115, 116, 32, 98, 101, 32, 99, 97, 108, 108, 101, 100, 32, 102, 105, 114, 115, 116]))])
 (AM.ret .next)) (AM.ret .next))
 (seqM (retM ((bin2 ((locM 0).bind (qf9 167 [95, 110, 102, 105, 110, 105, 115, 104, 101, 100])) ((locM 0).bind (qf9 167 [95, 110, 112, 97, 115, 115, 101, 100, 111, 117, 116])) (ordM fun a b => decide (a < b))).bind fun a => (x6q a).bind fun b => match b with | true => AM.ret a | false => ((q8q [((locM 0).bind (qf9 167 [95, 114, 101, 97, 100, 121, 95, 110, 111, 100, 101, 115]))]).bind (one zi5))))
 (AM.ret .next))))
theorem qc2 {g : Gl} (S : Sit g) : qc1 g prog 1 (.ref 136) (z8q g.mt) :=
 y8q S.G (ps := ["self"]) (nm := ["self"]) (cn := []) (S.X 136 _ rfl) rfl (j5q S rfl rfl rfl rfl) rfl rfl (y5q fun vs hv s => x9q hv fun _ => rfl) (by decide +kernel) (by decide +kernel) (by decide +kernel) (by decide +kernel) (by decide +kernel) (by decide +kernel) rfl rfl rfl rfl rfl fun L fr =>
 (q2q (S_if (v5q rfl (w0q (k5q (name := [95, 114, 101, 97, 100, 121, 95, 110, 111, 100, 101, 115]) S.X x8q) (fun _ _ _ _ h => Attribute_any_ h rfl) (q0q (i := 0) rfl rfl rfl rfl)) qn1 (qr9 (.inl ⟨rfl, rfl⟩)) x0q) (q2q (qs4 rfl rfl PySem.F.excCall_ValueError PySem.F.excRaise_ValueError (q9q S.G (y0q S) rfl (by decide +kernel) rfl rfl rfl rfl rfl) (q1q (qu4 (l := [112, 114, 101, 112, 97, 114, 101, 40, 41, 32, 109, 117, 115, 116, 32, 98, 101, 32, 99, 97, 108, 108, 101, 100, 32, 102, 105, 114, 115, 116]) rfl) rfl q4q))
 x1q) x1q)
 (q2q (qi9 (E_or (jn2 rfl (w0q (k5q (name := [95, 110, 102, 105, 110, 105, 115, 104, 101, 100]) S.X qp8) (fun _ _ _ _ h => Attribute_any_ h rfl) (q0q (i := 0) rfl rfl rfl rfl)) (w0q (k5q (name := [95, 110, 112, 97, 115, 115, 101, 100, 111, 117, 116]) S.X qm8) (fun _ _ _ _ h => Attribute_any_ h rfl) (q0q (i := 0) rfl rfl rfl rfl)) lt_ok) (ql2 zp8 (q9q S.G (zu5 S) rfl (by decide +kernel) rfl rfl rfl rfl rfl) (q1q (w0q (k5q (name := [95, 114, 101, 97, 100, 121, 95, 110, 111, 100, 101, 115]) S.X x8q) (fun _ _ _ _ h => Attribute_any_ h rfl) (q0q (i := 0) rfl rfl rfl rfl)) rfl q4q)) x0q))
 x1q))
theorem qc6 {g : Gl} (S : Sit g) : FnOk g prog 1 (.ref 136) (z8q g.mt) := (qc2 S).ok
noncomputable def v9q (mt : Bool -> Nat -> Int -> Option SI) : List AV -> AM AV := fun as => (zq1 1 as).bind (qd5 [some 0, some 1, none, none, none, none, none, none] [] [] (seqM (ifM (((locM 0).bind (qf9 167 [95, 114, 101, 97, 100, 121, 95, 110, 111, 100, 101, 115])).bind fun a => (AM.ret .none).bind fun b => ((isM false) a b).bind x6q) (seqM (qj0 0 [(AM.ret (.str [112, 114, 101, 112, 97, 114, 101, 40, 41, 32, 109, 117, 115, 116, 32, 98, 101, 32, 99, 97, 108, 108, 101, 100, 32, 102, 105, 114, 115, 116]))])
 (AM.ret .next)) (AM.ret .next))
 (seqM (asgM ((locM 0).bind (qf9 167 [95, 110, 111, 100, 101, 50, 105, 110, 102, 111])) (q7q 2))
 (seqM (((locM 1).bind qa8).bind fun src => forI false src (q7q 3) (seqM (ifM (((qe4 qw7 (locM 2) [(locM 3)] (two zn2)).bind fun a => ((q7q 4) a).bind fun _ => AM.ret a).bind fun a => (AM.ret .none).bind fun b => ((isM false) a b).bind x6q) (seqM AM.fail
 (AM.ret .next)) (AM.ret .next))
 (seqM (asgM ((locM 4).bind (qw9 70 1)) (q7q 5))
 (seqM (ifM ((locM 5).bind fun a => (AM.ret (.int (.lin (-1) 0 0))).bind fun b => ((eqM true) a b).bind x6q) (seqM (ifM ((locM 5).bind fun a => (AM.ret (.int (.lin 0 0 0))).bind fun b => ((ordM fun a b => decide (b <= a)) a b).bind x6q) (seqM AM.fail
 (AM.ret .next)) (seqM (ifM ((locM 5).bind fun a => (AM.ret (.int (.lin (-2) 0 0))).bind fun b => ((eqM false) a b).bind x6q) (seqM AM.fail
 (AM.ret .next)) (seqM AM.fail
 (AM.ret .next)))
 (AM.ret .next)))
 (AM.ret .next)) (AM.ret .next))
 (seqM ((AM.ret (.int (.lin (-2) 0 0))).bind fun v => (locM 4).bind fun a => ((xd0 70 1) a v).bind fun _ => AM.ret .next)
 (seqM ((((locM 4).bind (qw9 70 2)).bind qa8).bind fun src => forI false src (q7q 6) (seqM (asgM (bin2 (locM 2) (locM 6) subM) (q7q 7))
 (seqM ((locM 7).bind fun a => ((qw9 70 1) a).bind fun b => (AM.ret (.int (.lin 1 0 0))).bind fun v => ((qc5 SI.sub) b v).bind fun r => ((xd0 70 1) a r).bind fun _ => AM.ret .next)
 (seqM (ifM (((locM 7).bind (qw9 70 1)).bind fun a => (AM.ret (.int (.lin 0 0 0))).bind fun b => ((eqM false) a b).bind x6q) (seqM ((qe4 u4q ((locM 0).bind (qf9 167 [95, 114, 101, 97, 100, 121, 95, 110, 111, 100, 101, 115])) [(locM 6)] (two qg0)).bind fun _ => AM.ret .next)
 (AM.ret .next)) (AM.ret .next))
 (AM.ret .next)))) 200 0)
 (seqM ((locM 0).bind fun a => ((qf9 167 [95, 110, 102, 105, 110, 105, 115, 104, 101, 100]) a).bind fun b => (AM.ret (.int (.lin 1 0 0))).bind fun v => ((qc5 SI.add) b v).bind fun r => ((xd2 167 [95, 110, 102, 105, 110, 105, 115, 104, 101, 100]) a r).bind fun _ => AM.ret .next)
 (AM.ret .next))))))) 200 0)
 (AM.ret .next)))))
theorem qg2 {g : Gl} (S : Sit g) : qc1 g prog 1 (.ref 150) (v9q g.mt) :=
 y8q S.G (ps := ["self", "nodes"]) (nm := ["self", "nodes", "n2i", "node", "nodeinfo", "stat", "successor", "successor_info"]) (cn := []) (S.X 150 _ rfl) rfl (j5q S rfl rfl rfl rfl) rfl rfl (xv9 (ps := ["self"]) (r := "nodes") fun vs hv => xw9 hv (fun _  => rfl) (fun _ _ _ => rfl)) (by decide +kernel) (by decide +kernel) (by decide +kernel) (by decide +kernel) (by decide +kernel) (by decide +kernel) rfl rfl rfl rfl rfl fun L fr =>
 (q2q (S_if (v5q rfl (w0q (k5q (name := [95, 114, 101, 97, 100, 121, 95, 110, 111, 100, 101, 115]) S.X x8q) (fun _ _ _ _ h => Attribute_any_ h rfl) (q0q (i := 0) rfl rfl rfl rfl)) qn1 (qr9 (.inl ⟨rfl, rfl⟩)) x0q) (q2q (qs4 rfl rfl PySem.F.excCall_ValueError PySem.F.excRaise_ValueError (q9q S.G (y0q S) rfl (by decide +kernel) rfl rfl rfl rfl rfl) (q1q (qu4 (l := [112, 114, 101, 112, 97, 114, 101, 40, 41, 32, 109, 117, 115, 116, 32, 98, 101, 32, 99, 97, 108, 108, 101, 100, 32, 102, 105, 114, 115, 116]) rfl) rfl q4q))
 x1q) x1q)
 (q2q (u8q rfl (w0q (k5q (name := [95, 110, 111, 100, 101, 50, 105, 110, 102, 111]) S.X w9q) (fun _ _ _ _ h => Attribute_any_ h rfl) (q0q (i := 0) rfl rfl rfl rfl)) (q5q (i := 2) rfl (uniq (l := ["self", "nodes", "n2i", "node", "nodeinfo", "stat", "successor", "successor_info"]) (by decide +kernel) rfl) rfl rfl))
 (q2q (qh2 200 false rfl (fun _ => rfl) (fun z => nomatch z) (qf3 S.sm (q0q (i := 1) rfl rfl rfl rfl)) (x2q (q5q (i := 3) rfl (uniq (l := ["self", "nodes", "n2i", "node", "nodeinfo", "stat", "successor", "successor_info"]) (by decide +kernel) rfl) rfl rfl)) (q2q (S_if (v5q rfl (zj1 (qe9 (zg0 PySem.F.slot_dict_get PySem.F.type_dict_get) (zg3 S.sm) (q0q (i := 2) rfl rfl rfl rfl) (q1q (q0q (i := 3) rfl rfl rfl rfl) rfl q4q) _ rfl) (q5q (i := 4) rfl (uniq (l := ["self", "nodes", "n2i", "node", "nodeinfo", "stat", "successor", "successor_info"]) (by decide +kernel) rfl) rfl rfl)) qn1 (qr9 (.inl ⟨rfl, rfl⟩)) x0q) (q2q xm6
 x1q) x1q)
 (q2q (u8q rfl (w0q (qi7 S.X k8q) (fun _ _ _ _ h => Attribute_any_ h rfl) (q0q (i := 4) rfl rfl rfl rfl)) (q5q (i := 5) rfl (uniq (l := ["self", "nodes", "n2i", "node", "nodeinfo", "stat", "successor", "successor_info"]) (by decide +kernel) rfl) rfl rfl))
 (q2q (S_if (v5q rfl (q0q (i := 5) rfl rfl rfl rfl) (xi2 S.G (qt2 S).choose_spec rfl rfl rfl rfl) zu3 x0q) (q2q (S_if (v5q rfl (q0q (i := 5) rfl rfl rfl rfl) j0q jk8 x0q) (q2q xm6
 x1q) (q2q (S_if (v5q rfl (q0q (i := 5) rfl rfl rfl rfl) (xi2 S.G (qp2 S).choose_spec rfl rfl rfl rfl) xl5 x0q) (q2q xm6
 x1q) (q2q xm6
 x1q))
 x1q))
 x1q) x1q)
 (q2q (w7q (qn2 S.X (by decide) k7q) rfl (xi2 S.G (qp2 S).choose_spec rfl rfl rfl rfl) (q0q (i := 4) rfl rfl rfl rfl))
 (q2q (qh2 200 false rfl (fun _ => rfl) (fun z => nomatch z) (qf3 S.sm (w0q (qi7 S.X qh9) (fun _ _ _ _ h => Attribute_any_ h rfl) (q0q (i := 4) rfl rfl rfl rfl))) (x2q (q5q (i := 6) rfl (uniq (l := ["self", "nodes", "n2i", "node", "nodeinfo", "stat", "successor", "successor_info"]) (by decide +kernel) rfl) rfl rfl)) (q2q (u8q rfl (k3q (fun _ _ => ⟨_, rfl⟩) (q0q (i := 2) rfl rfl rfl rfl) (q0q (i := 6) rfl rfl rfl rfl)) (q5q (i := 7) rfl (uniq (l := ["self", "nodes", "n2i", "node", "nodeinfo", "stat", "successor", "successor_info"]) (by decide +kernel) rfl) rfl rfl))
 (q2q (qq6 (qi7 S.X k8q) zw8 (qn2 S.X (by decide) k7q) (q0q (i := 7) rfl rfl rfl rfl) j0q)
 (q2q (S_if (v5q rfl (w0q (qi7 S.X k8q) (fun _ _ _ _ h => Attribute_any_ h rfl) (q0q (i := 7) rfl rfl rfl rfl)) j0q xl5 x0q) (q2q (u7q rfl rfl (qe9 (qe5 PySem.F.slot_list_append PySem.F.type_list_append) qb9 (w0q (k5q (name := [95, 114, 101, 97, 100, 121, 95, 110, 111, 100, 101, 115]) S.X x8q) (fun _ _ _ _ h => Attribute_any_ h rfl) (q0q (i := 0) rfl rfl rfl rfl)) (q1q (q0q (i := 6) rfl rfl rfl rfl) rfl q4q) _ rfl))
 x1q) x1q)
 x1q))))
 (q2q (qq6 (k5q (name := [95, 110, 102, 105, 110, 105, 115, 104, 101, 100]) S.X qp8) xq7 (qn3 (name := [95, 110, 102, 105, 110, 105, 115, 104, 101, 100]) S.X qp7) (q0q (i := 0) rfl rfl rfl rfl) j0q)
 x1q)))))))
 x1q)))
noncomputable def qk0 (mt : Bool -> Nat -> Int -> Option SI) : List AV -> AM AV := fun as => (qf1 1 as).bind (qd5 [some 0, none] [none] [] (seqM (asgM (qm2 [(u9q [((q8q [(locM 0)]).bind (one xr4))]), (lamM 0 2 195 37 [])]) (qd9 [(qc9 0), (q7q 1)]))
 (seqM ((lamM 1 2 196 18 [0]).bind fun v => (locM 1).bind fun a => ((zc0 [114, 101, 97, 100]) a v).bind fun _ => AM.ret .next)
 (seqM (retM (locM 1))
 (AM.ret .next)))))
theorem xh6 {g : Gl} (S : Sit g) : qf2 g prog (.ref 200) := w8q (S.X 200 _ rfl) rfl
theorem xa0 {g : Gl} (S : Sit g) : qc1 g prog 1 (.ref 200) (qk0 g.mt) :=
 y8q S.G (ps := ["octets"]) (nm := ["octets", "stream"]) (cn := ["rest"]) (S.X 200 _ rfl) rfl (j5q S rfl rfl rfl rfl) rfl rfl (y5q fun vs hv s => x9q hv fun _ => rfl) (by decide +kernel) (by decide +kernel) (by decide +kernel) (by decide +kernel) (by decide +kernel) (by decide +kernel) rfl rfl rfl rfl rfl fun L fr =>
 (q2q (xw5 rfl rfl (qo5 (q1q (k0q (q1q (ql2 (zi2 S.G rfl) (q9q S.G (zl7 S) rfl (by decide +kernel) rfl rfl rfl rfl rfl) (q1q (q0q (i := 0) rfl rfl rfl rfl) rfl q4q)) rfl q4q)) rfl (q1q (qq9 S.G S.B rfl (z3q rfl) .nil rfl rfl S.c3 (tab2 S) (fn0 S) rfl) rfl q4q))) (qd6 rfl (j6q (x2q (u6q (j := 0) rfl rfl rfl)) rfl (j6q (x2q (q5q (i := 1) rfl (uniq (l := ["octets", "stream"]) (by decide +kernel) rfl) rfl rfl)) rfl qi8))))
 (q2q (w7q (zk1 (name := [114, 101, 97, 100]) qs1) rfl (qq9 S.G S.B rfl (z3q rfl) (.cons .zero (by rfl) .nil) rfl rfl S.c3 (tab2 S) (fn1 S) rfl) (q0q (i := 1) rfl rfl rfl rfl))
 (q2q (qi9 (q0q (i := 1) rfl rfl rfl rfl))
 x1q)))
theorem xh8 {g : Gl} (S : Sit g) : FnOk g prog 1 (.ref 200) (qk0 g.mt) := (xa0 S).ok
noncomputable def ql4 (mt : Bool -> Nat -> Int -> Option SI) : List AV -> AM AV := fun as => (qf1 1 as).bind (qd5 [some 0, none, none, none] [none] [] (seqM (asgM (qm2 [((q8q [(locM 0)]).bind (qk0 mt)), (u9q [])]) (qd9 [(qc9 0), (q7q 1)]))
 (seqM (qd8 ((AM.ret (.bool true)).bind x6q) (seqM (tryM 0 (seqM (xi9 (qm2 [((q8q [(celM 0)]).bind (qd4 mt)), ((q8q [(celM 0)]).bind (qe3 mt))]) (q7q 2) (q7q 3))
 (seqM ((qe4 u4q (locM 1) [(u9q [(locM 2), (((locM 3).bind fun a => (AM.ret (.int (.lin 0 0 0))).bind fun b => ((ordM fun a b => decide (b < a)) a b).bind x6q).bind fun b => match b with | true => (((locM 3).bind qh7).bind (v4q (.list []) 1 [0] 200 false (q7q 0) (AM.ret true) (qk3 ((q8q [(celM 0)]).bind (qd4 mt))))) | false => ((q8q [(celM 0)]).bind (qe3 mt)))])] (two qg0)).bind fun _ => AM.ret .next)
 (AM.ret .next))) (seqM (retM (locM 1))
 (AM.ret .next)))
 (AM.ret .next)) (AM.ret .next) 200)
 (AM.ret .next))))
theorem qy3 {g : Gl} (S : Sit g) : qf2 g prog (.ref 205) := w8q (S.X 205 _ rfl) rfl
theorem xn6 {g : Gl} (S : Sit g) : qc1 g prog 5 (.ref 205) (ql4 g.mt) :=
 y8q S.G (ps := ["octets"]) (nm := ["octets", "cells", "name", "many"]) (cn := ["stream"]) (S.X 205 _ rfl) rfl (j5q S rfl rfl rfl rfl) rfl rfl (y5q fun vs hv s => x9q hv fun _ => rfl) (by decide +kernel) (by decide +kernel) (by decide +kernel) (by decide +kernel) (by decide +kernel) (by decide +kernel) rfl rfl rfl rfl rfl fun L fr =>
 (q2q (xw5 rfl rfl (qo5 (q1q (w2q (xh8 S) (xh6 S) (by decide) rfl (k9q S.G (qz3 S) rfl rfl rfl rfl) (q1q (q0q (i := 0) rfl rfl rfl rfl) rfl q4q)) rfl (q1q (k0q q4q) rfl q4q))) (qd6 rfl (j6q (x2q (u6q (j := 0) rfl rfl rfl)) rfl (j6q (x2q (q5q (i := 1) rfl (uniq (l := ["octets", "cells", "name", "many"]) (by decide +kernel) rfl) rfl rfl)) rfl qi8))))
 (q2q (xh3 200 (za6 rfl zj4 x0q) (q2q (jf5 (k := 0) ⟨_, _, _, rfl, rfl, rfl⟩ qu0 (q2q (zs6 (x := "name") (y := "many") rfl rfl rfl (qo5 (q1q (w2q (qn0 S) (qm9 S) (by decide) rfl (k9q S.G (qj8 S) rfl rfl rfl rfl) (q1q (x4q (j := 0) rfl rfl rfl rfl) rfl q4q)) rfl (q1q (w2q (ql0 S) (qk9 S) (by decide) rfl (k9q S.G (qi2 S) rfl rfl rfl rfl) (q1q (x4q (j := 0) rfl rfl rfl rfl) rfl q4q)) rfl q4q))) (q5q (i := 2) rfl (uniq (l := ["octets", "cells", "name", "many"]) (by decide +kernel) rfl) rfl rfl) (q5q (i := 3) rfl (uniq (l := ["octets", "cells", "name", "many"]) (by decide +kernel) rfl) rfl rfl))
 (q2q (u7q rfl rfl (qe9 (qe5 PySem.F.slot_list_append PySem.F.type_list_append) qb9 (q0q (i := 1) rfl rfl rfl rfl) (q1q (k0q (q1q (q0q (i := 2) rfl rfl rfl rfl) rfl (q1q (qo6 (v5q rfl (q0q (i := 3) rfl rfl rfl rfl) j0q jk6 x0q) (j9q (j8q (nm := ["k"]) (cn := ["stream"]) (cj := [0]) (tup := false) (fun _ => rfl) (z3q rfl) rfl (by decide +kernel) (by decide +kernel) (.cons .zero (by rfl) .nil) (fun z => nomatch z) (fun _ => (x2q (q5q (i := 0) rfl (uniq (l := ["k"]) (by decide +kernel) rfl) rfl rfl))) (fun _ => v7q) (fun _ => (w2q (qn0 S) (qm9 S) (by decide) rfl (k9q S.G (qj8 S) rfl rfl rfl rfl) (q1q (x4q (j := 0) rfl rfl rfl rfl) rfl q4q)))) ⟨_, _, _, rfl, rfl, rfl⟩ rfl 200 (qy4 (q9q S.G (qp1 S) rfl (by decide +kernel) rfl rfl rfl rfl rfl) (q1q (q0q (i := 3) rfl rfl rfl rfl) rfl q4q))) (w2q (ql0 S) (qk9 S) (by decide) rfl (k9q S.G (qi2 S) rfl rfl rfl rfl) (q1q (x4q (j := 0) rfl rfl rfl rfl) rfl q4q))) rfl q4q))) rfl q4q) _ rfl))
 x1q)) (q9q S.G (y0q S) rfl (by decide +kernel) rfl rfl rfl rfl rfl) (q2q (qi9 (q0q (i := 1) rfl rfl rfl rfl))
 x1q))
 x1q) x1q)
 x1q))
theorem qy5 {g : Gl} (S : Sit g) : FnOk g prog 5 (.ref 205) (ql4 g.mt) := (xn6 S).ok
noncomputable def qa9 (mt : Bool -> Nat -> Int -> Option SI) : List AV -> AM AV := fun as => (qf1 1 as).bind (qd5 [some 0, none, none, none, none] [none, none] [] (seqM (asgM (qm2 [(((locM 0).bind qa8).bind (v4q (.dict [] 0) 1 [] 200 false (q7q 0) (AM.ret true) (zo3 (bin2 (locM 0) (AM.ret (.int (.lin 0 0 0))) subM) (bin2 (locM 0) (AM.ret (.int (.lin 1 0 0))) subM)))), (newM (.dict [] 0))]) (qd9 [(qc9 0), (qc9 1)]))
 (seqM (asgM ((q8q [(((celM 0).bind qa8).bind (v4q (.dict [] 0) 1 [0] 200 false (q7q 0) (AM.ret true) (zo3 (locM 0) ((((q8q [(bin2 (celM 0) (locM 0) subM)]).bind (one xa2)).bind fun a => (AM.ret (.stat (.type "int"))).bind fun b => ((isM false) a b).bind x6q).bind fun b => match b with | true => (u9q []) | false => (bin2 (celM 0) (locM 0) subM)))))]).bind (ze1 (.inst 167) (w3q mt))) (q7q 1))
 (seqM (tryM 85 (seqM ((qe4 (u5q 167 [112, 114, 101, 112, 97, 114, 101]) (locM 1) [] (j4q mt)).bind fun _ => AM.ret .next)
 (AM.ret .next)) (seqM (retM (u9q []))
 (AM.ret .next)))
 (seqM (qd8 ((qe4 (u5q 167 [105, 115, 95, 97, 99, 116, 105, 118, 101]) (locM 1) [] (z8q mt)).bind x6q) (seqM (asgM (qe4 (u5q 167 [103, 101, 116, 95, 114, 101, 97, 100, 121]) (locM 1) [] (z9q mt)) (q7q 2))
 (seqM (((locM 1).bind fun a => qx6 (u5q 167 [100, 111, 110, 101]) a (((locM 2).bind xo4).bind fun as => v9q mt (a :: as))).bind fun _ => AM.ret .next)
 (seqM (((locM 2).bind qa8).bind fun src => forI false src (q7q 3) (seqM (asgM (bin2 (celM 0) (locM 3) subM) (q7q 4))
 (seqM (((((q8q [(locM 4)]).bind (one xa2)).bind fun a => (AM.ret (.stat (.type "int"))).bind fun b => ((isM false) a b).bind x6q).bind fun b => match b with | true => (locM 4) | false => ((q8q [(lamM 2 0 218 67 [1]), (locM 4), (AM.ret (.int (.lin 0 0 0)))]).bind (xp9 mt))).bind fun v => (celM 1).bind fun a => (locM 3).bind fun b => (qz8 a b v).bind fun _ => AM.ret .next)
 (AM.ret .next))) 200 0)
 (AM.ret .next)))) (AM.ret .next) 200)
 (seqM (retM (((celM 0).bind qa8).bind (v4q (.list []) 1 [1] 200 false (q7q 0) (AM.ret true) (qk3 (u9q [(locM 0), (bin2 (celM 0) (locM 0) subM)])))))
 (AM.ret .next)))))))
theorem xh5 {g : Gl} (S : Sit g) : qf2 g prog (.ref 210) := w8q (S.X 210 _ rfl) rfl
theorem qz9 {g : Gl} (S : Sit g) : qc1 g prog 7 (.ref 210) (qa9 g.mt) :=
 y8q S.G (ps := ["cells"]) (nm := ["cells", "sorter", "ready", "name", "found"]) (cn := ["book", "worths"]) (S.X 210 _ rfl) rfl (j5q S rfl rfl rfl rfl) rfl rfl (y5q fun vs hv s => x9q hv fun _ => rfl) (by decide +kernel) (by decide +kernel) (by decide +kernel) (by decide +kernel) (by decide +kernel) (by decide +kernel) rfl rfl rfl rfl rfl fun L fr =>
 (q2q (xw5 rfl rfl (qo5 (q1q (xc5 (xa4 (nm := ["cell"]) (cn := []) (cj := []) (tup := false) (fun _ => rfl) (closureFor_none (by decide +kernel)) rfl (by decide +kernel) (by decide +kernel) .nil (fun z => nomatch z) (fun _ => (x2q (q5q (i := 0) rfl (uniq (l := ["cell"]) (by decide +kernel) rfl) rfl rfl))) (fun _ => v7q) (fun _ => (k3q (fun _ _ => ⟨_, rfl⟩) (q0q (i := 0) rfl rfl rfl rfl) j0q)) (fun _ => (k3q (fun _ _ => ⟨_, rfl⟩) (q0q (i := 0) rfl rfl rfl rfl) j0q))) ⟨_, _, _, rfl, rfl, rfl⟩ rfl 200 (qf3 S.sm (q0q (i := 0) rfl rfl rfl rfl))) rfl (q1q xi3 rfl q4q))) (qd6 rfl (j6q (x2q (u6q (j := 0) rfl rfl rfl)) rfl (j6q (x2q (u6q (j := 1) rfl rfl rfl)) rfl qi8))))
 (q2q (u8q rfl (zj3 S.X jj2 jl4 (qc8 S) rfl (by decide) zn0 (k9q S.G (qm0 S) rfl rfl rfl rfl) (q1q (xc5 (xa4 (nm := ["name"]) (cn := ["book"]) (cj := [0]) (tup := false) (fun _ => rfl) (z3q rfl) rfl (by decide +kernel) (by decide +kernel) (.cons .zero (by rfl) .nil) (fun z => nomatch z) (fun _ => (x2q (q5q (i := 0) rfl (uniq (l := ["name"]) (by decide +kernel) rfl) rfl rfl))) (fun _ => v7q) (fun _ => (q0q (i := 0) rfl rfl rfl rfl)) (fun _ => (qo6 (v5q rfl (ql2 qu5 (q9q S.G (xd7 S) rfl (by decide +kernel) rfl rfl rfl rfl rfl) (q1q (k3q (fun _ _ => ⟨_, rfl⟩) (x4q (j := 0) rfl rfl rfl rfl) (q0q (i := 0) rfl rfl rfl rfl)) rfl q4q)) (q9q S.G (xt4 S) rfl (by decide +kernel) rfl rfl rfl rfl rfl) (qr9 (.inl ⟨rfl, rfl⟩)) x0q) (k0q q4q) (k3q (fun _ _ => ⟨_, rfl⟩) (x4q (j := 0) rfl rfl rfl rfl) (q0q (i := 0) rfl rfl rfl rfl))))) ⟨_, _, _, rfl, rfl, rfl⟩ rfl 200 (qf3 S.sm (x4q (j := 0) rfl rfl rfl rfl))) rfl q4q)) (q5q (i := 1) rfl (uniq (l := ["cells", "sorter", "ready", "name", "found"]) (by decide +kernel) rfl) rfl rfl))
 (q2q (jf5 (k := 85) ⟨_, _, _, rfl, rfl, rfl⟩ (ze0 (xj5 S) (by decide +kernel) rfl) (q2q (u7q rfl rfl (qs6 (name := [112, 114, 101, 112, 97, 114, 101]) S.X xy2 (qi4 S.X xx6) (qe8 S _ _ (by decide) rfl) (q0q (i := 1) rfl rfl rfl rfl) q4q _ rfl))
 x1q) (k9q S.G (qp3 S) rfl rfl rfl rfl) (q2q (qi9 (k0q q4q))
 x1q))
 (q2q (xh3 200 (za6 rfl (qs6 (name := [105, 115, 95, 97, 99, 116, 105, 118, 101]) S.X xk7 (qi4 S.X xk4) (qc6 S _ _ (by decide) rfl) (q0q (i := 1) rfl rfl rfl rfl) q4q _ rfl) x0q) (q2q (u8q rfl (qs6 (name := [103, 101, 116, 95, 114, 101, 97, 100, 121]) S.X xk8 (qi4 S.X xk5) (qc7 S _ _ (by decide) rfl) (q0q (i := 1) rfl rfl rfl rfl) q4q _ rfl) (q5q (i := 2) rfl (uniq (l := ["cells", "sorter", "ready", "name", "found"]) (by decide +kernel) rfl) rfl rfl))
 (q2q (u7q rfl rfl (xn9 (name := [100, 111, 110, 101]) S.X zt4 ⟨_, _, S.X 150 _ rfl, rfl⟩ (qg2 S) (by decide) rfl rfl (q0q (i := 1) rfl rfl rfl rfl) (fun u => za3 (q0q (i := 2) rfl rfl rfl rfl) rfl) rfl))
 (q2q (qh2 200 false rfl (fun _ => rfl) (fun z => nomatch z) (qf3 S.sm (q0q (i := 2) rfl rfl rfl rfl)) (x2q (q5q (i := 3) rfl (uniq (l := ["cells", "sorter", "ready", "name", "found"]) (by decide +kernel) rfl) rfl rfl)) (q2q (u8q rfl (k3q (fun _ _ => ⟨_, rfl⟩) (x4q (j := 0) rfl rfl rfl rfl) (q0q (i := 3) rfl rfl rfl rfl)) (q5q (i := 4) rfl (uniq (l := ["cells", "sorter", "ready", "name", "found"]) (by decide +kernel) rfl) rfl rfl))
 (q2q (xm7 rfl (qo6 (v5q rfl (ql2 qu5 (q9q S.G (xd7 S) rfl (by decide +kernel) rfl rfl rfl rfl rfl) (q1q (q0q (i := 4) rfl rfl rfl rfl) rfl q4q)) (q9q S.G (xt4 S) rfl (by decide +kernel) rfl rfl rfl rfl rfl) (qr9 (.inl ⟨rfl, rfl⟩)) x0q) (q0q (i := 4) rfl rfl rfl rfl) (w2q (zq8 S) (zq6 S) (by decide) rfl (k9q S.G (zd7 S) rfl rfl rfl rfl) (q1q (qq9 S.G S.B rfl (z3q rfl) (.cons (.succ .zero) (by rfl) .nil) rfl rfl S.c0 (tab0 S) (fn2 S) rfl) rfl (q1q (q0q (i := 4) rfl rfl rfl rfl) rfl (q1q j0q rfl q4q))))) (x4q (j := 1) rfl rfl rfl rfl) (q0q (i := 3) rfl rfl rfl rfl))
 x1q)))
 x1q))) x1q)
 (q2q (qi9 (j9q (j8q (nm := ["name"]) (cn := ["worths"]) (cj := [1]) (tup := false) (fun _ => rfl) (z3q rfl) rfl (by decide +kernel) (by decide +kernel) (.cons (.succ .zero) (by rfl) .nil) (fun z => nomatch z) (fun _ => (x2q (q5q (i := 0) rfl (uniq (l := ["name"]) (by decide +kernel) rfl) rfl rfl))) (fun _ => v7q) (fun _ => (k0q (q1q (q0q (i := 0) rfl rfl rfl rfl) rfl (q1q (k3q (fun _ _ => ⟨_, rfl⟩) (x4q (j := 0) rfl rfl rfl rfl) (q0q (i := 0) rfl rfl rfl rfl)) rfl q4q))))) ⟨_, _, _, rfl, rfl, rfl⟩ rfl 200 (qf3 S.sm (x4q (j := 0) rfl rfl rfl rfl))))
 x1q)))))
theorem xh7 {g : Gl} (S : Sit g) : FnOk g prog 7 (.ref 210) (qa9 g.mt) := (qz9 S).ok
end
structure ExtN (cx : Cx) (V : List Addr) (h : Heap) (ρ' : List Addr) (h' : Heap) : Prop where
 pre : Pre V ρ'
 fresh : ∀ a ∈ ρ', a ∉ V -> h.get? a = none /\ a ≠ cx.env.locals
 keep : ∀ b o, h.get? b = some o -> b ∉ V -> b ≠ cx.env.locals -> b ≠ 37 -> (¬ Fs cx.fr b -> h'.get? b = some o) /\ ∃ sl, h'.get? b = some { o with slots := sl }
 l37 : ∀ o, h.get? 37 = some o -> ∃ o', h'.get? 37 = some o'
structure KIn (g : Gl) (V : List Addr) (h : Heap) (ok : Option KD) : Prop where
 ks : KSd h ok
 z : g.U.get? 37 = none
 o37 : 37 ∉ V
 os : ∀ k, ok = some k -> ∀ a ∈ k.all, a ∉ V
theorem KSd.on {h h' : Heap} {ok : Option KD} (x : KSd h ok) (k : ∀ a o, (a = 37 \/ ∃ d, ok = some d /\ a ∈ d.all) -> h.get? a = some o -> (∀ es n, o.data ≠ .dict es n) -> h'.get? a = some o) : KSd h' ok := by
 induction ok with
 | none => exact k _ _ (.inl rfl) x (fun _ _ z => by cases z)
 | some d =>
  obtain ⟨e1, ⟨o, vs, file, tf, flags, tg, inF, text, tt, f1, f2, f3, r⟩, e3, ⟨d4, s4, a4, t4, r4, e4⟩, ⟨d5, s5, a5, t5, r5, e5⟩⟩ := x
  have m1 : d.KC ∈ d.all := by simp [KD.all]
  have m2 : d.kt ∈ d.all := by simp [KD.all]
  have m3 : d.c 0 ∈ d.all := by simp [KD.all]
  have m4 : d.c 1 ∈ d.all := by simp [KD.all]
  exact ⟨k _ _ (.inl rfl) e1 (fun _ _ z => by cases z), ⟨o, vs, file, tf, flags, tg, inF, text, tt, k _ _ (.inr ⟨d, rfl, m1⟩) f1 (fun _ _ z => by rw [f3] at z; cases z), f2, f3, r⟩, k _ _ (.inr ⟨d, rfl, m2⟩) e3 (fun _ _ z => by cases z), ⟨d4, s4, a4, t4, r4, k _ _ (.inr ⟨d, rfl, m3⟩) e4 (fun _ _ z => by cases z)⟩, ⟨d5, s5, a5, t5, r5, k _ _ (.inr ⟨d, rfl, m4⟩) e5 (fun _ _ z => by cases z)⟩⟩
theorem KSd.live {h : Heap} {ok : Option KD} (x : KSd h ok) (a : Addr) (m : a = 37 \/ ∃ d, ok = some d /\ a ∈ d.all) : ∃ o, h.get? a = some o := by
 induction ok with
 | none =>
  rcases m with rfl | ⟨d, z, _⟩
  . exact ⟨_, x⟩
  . exact q6q z
 | some d =>
  obtain ⟨e1, ⟨o, vs, file, tf, flags, tg, inF, text, tt, f1, _⟩, e3, ⟨d4, s4, a4, t4, r4, e4⟩, ⟨d5, s5, a5, t5, r5, e5⟩⟩ := x
  rcases m with rfl | ⟨d', z, m⟩
  . exact ⟨_, e1⟩
  . obtain rfl := w4z z
    simp only [KD.all, List.mem_cons, List.not_mem_nil, or_false] at m
    rcases m with rfl | rfl | rfl | rfl
    . exact ⟨_, f1⟩
    . exact ⟨_, e3⟩
    . exact ⟨_, e4⟩
    . exact ⟨_, e5⟩
section
variable {g : Gl} {cx : Cx}
theorem ExtN.of {V ρ' : List Addr} {h h' : Heap} (x : Ext cx V h ρ' h') (l : ∀ o, h.get? 37 = some o -> ∃ o', h'.get? 37 = some o') : ExtN cx V h ρ' h' := ⟨x.pre, x.fresh, fun b o e n l _ => x.keep b o e n l, l⟩
theorem ExtN.grow {V : List Addr} {h h' : Heap} (k : ∀ b o, h.get? b = some o -> b ≠ 37 -> h'.get? b = some o) (l : ∀ o, h.get? 37 = some o -> ∃ o', h'.get? 37 = some o') : ExtN cx V h V h' := ⟨Pre.refl V, fun _ h1 h2 => absurd h1 h2, fun b o e _ _ n => ⟨fun _ => k b o e n, o.slots, k b o e n⟩, l⟩
theorem ExtN.trans {V VA VB : List Addr} {h h₁ h₂ : Heap} (x : ExtN cx V h VA h₁) (y : ExtN cx VA h₁ VB h₂) : ExtN cx V h VB h₂ := by
 refine ⟨x.pre.trans y.pre, fun a h3 h1 => ?_, fun b o e nb nl n37 => ?_, fun o e => ?_⟩
 . by_cases q : a ∈ VA
   . exact x.fresh a q h1
   . obtain ⟨y1, y2⟩ := y.fresh a h3 q
     refine ⟨?_, y2⟩
     induction e : h.get? a with
     | none => rfl
     | some o =>
      by_cases z : a = 37
      . subst z
        obtain ⟨o', w⟩ := x.l37 o e
        exact q6q (y1.symm.trans w)
      . obtain ⟨_, sl, w⟩ := x.keep a o e h1 y2 z
        exact q6q (y1.symm.trans w)
 . have nb2 : b ∉ VA := fun q => by
    have := (x.fresh b q nb).1
    exact k2q (e.symm.trans this)
   obtain ⟨k1, sl, k2⟩ := x.keep b o e nb nl n37
   refine ⟨fun nf => (y.keep b o (k1 nf) nb2 nl n37).1 nf, ?_⟩
   obtain ⟨_, sl', k3⟩ := y.keep b _ k2 nb2 nl n37
   exact ⟨sl', k3⟩
 . obtain ⟨o', w⟩ := x.l37 o e
   exact y.l37 o' w
theorem Inv.nodict {V : List Addr} {st : St} {s : Shared} (I : Inv g cx V st s) {a : Addr} {o : Obj} (e : s.heap.get? a = some o) (n : ∀ es n, o.data ≠ .dict es n) : a ≠ cx.env.locals /\ ¬ Fs cx.fr a := by
 constructor
 . rintro rfl
   obtain ⟨m, ⟨o', es, ep, h1, h2, _⟩, _⟩ := I.loc
   obtain rfl := w4z (e.symm.trans h1)
   exact n _ _ h2
 . rintro ⟨e', he, hf⟩
   obtain ⟨_, b, o', es, ep, h1, h2, h3, _⟩ := I.frs e' he
   obtain rfl := w4z (hf.symm.trans h1)
   obtain rfl := w4z (e.symm.trans h2)
   exact n _ _ h3
theorem KIn.ext {V ρ' : List Addr} {st : St} {s : Shared} {h' : Heap} {ok : Option KD} (K : KIn g V s.heap ok) (I : Inv g cx V st s) (X : Ext cx V s.heap ρ' h') : KIn g ρ' h' ok := by
 have nin : ∀ a, (a = 37 \/ ∃ d, ok = some d /\ a ∈ d.all) -> a ∉ V := fun a m => by
  rcases m with rfl | ⟨d, z, m⟩
  . exact K.o37
  . exact K.os d z a m
 have nin' : ∀ a, (a = 37 \/ ∃ d, ok = some d /\ a ∈ d.all) -> a ∉ ρ' := fun a m q => by
  obtain ⟨o, e⟩ := K.ks.live a m
  have := (X.fresh a q (nin a m)).1
  exact k2q (e.symm.trans this)
 refine ⟨K.ks.on fun a o m e nd => ?_, K.z, nin' 37 (.inl rfl), fun k e a m => nin' a (.inr ⟨k, e, m⟩)⟩
 obtain ⟨n1, n2⟩ := I.nodict e nd
 exact (X.keep a o e (nin a m) n1).1 n2
theorem KIn.grow {V ρ' : List Addr} {h h' : Heap} {ok : Option KD} (K : KIn g V h ok) (k : ∀ b o, h.get? b = some o -> h'.get? b = some o) (hf : ∀ a ∈ ρ', a ∉ V -> h.get? a = none) : KIn g ρ' h' ok := by
 have nin' : ∀ a, a ∉ V -> (∃ o, h.get? a = some o) -> a ∉ ρ' := fun a n ⟨o, e⟩ q => by rw [hf a q n] at e; exact q6q e
 exact ⟨K.ks.keeps k, K.z, nin' _ K.o37 (K.ks.live _ (.inl rfl)), fun d e a m => nin' _ (K.os d e a m) (K.ks.live _ (.inr ⟨d, e, m⟩))⟩
theorem KIn.l37 {V : List Addr} {h h' : Heap} {ok' : Option KD} (K : KIn g V h' ok') : ∀ o, h.get? 37 = some o -> ∃ o', h'.get? 37 = some o' := fun _ _ => K.ks.live 37 (.inl rfl)
theorem jj1 {cx' : Cx} {V ρ' : List Addr} {st st' : St} {s s₁ s' : Shared} (I : Inv g cx V st s) (hk : ∀ b o, s.heap.get? b = some o -> s₁.heap.get? b = some o)
 (hL : s.heap.get? cx'.env.locals = none) (h37 : cx.env.locals ≠ 37) (hF' : ∀ b, Fs cx.fr b -> Fs cx'.fr b) (hfr : ∀ e ∈ cx.fr, e ∈ cx'.fr) (I' : Inv g cx' ρ' st' s') (X' : ExtN cx' V s₁.heap ρ' s'.heap) :
 Inv g cx ρ' { st with H := st'.H } s' := by
 have some_of : ∀ {b o}, s.heap.get? b = some o -> b ≠ cx'.env.locals := fun {b o} e q => by rw [q, hL] at e; exact q6q e
 have fr0 : ∀ a ∈ ρ', a ∉ V -> s.heap.get? a = none := fun a h1 h2 => by
  induction q : s.heap.get? a with
  | none => rfl
  | some o => have := (X'.fresh a h1 h2).1; rw [hk a o q] at this; exact k2q this
 refine ⟨I'.base, fun a ha => ?_, I'.nodup, I'.live, I'.heap, I'.size, ?_, I.lnew, fun i x hx => ?_, fun e he => I'.frs e (hfr e he), I'.gens, I'.drawn, I'.os, I'.tabs⟩
 . obtain ⟨o1, o2, o3⟩ := I'.own a ha
   refine ⟨o1, ?_, fun z => o3 (hF' a z)⟩
   by_cases q : a ∈ V
   . exact (I.own a q).2.1
   . exact (I.none_of (fr0 a ha q)).2.1
 . obtain ⟨m, ⟨o, es, ep, h1, h2, h3, h4⟩, hm⟩ := I.loc
   obtain ⟨_, sl, e⟩ := X'.keep cx.env.locals o (hk _ o h1) (fun z => (I.own _ z).2.1 rfl) (some_of h1) h37
   exact ⟨m, ⟨_, es, ep, e, h2, h3, h4⟩, fun i x hx => (hm i x hx).mono X'.pre⟩
 . obtain ⟨k, c, h1, h2, h3⟩ := I.cells i x hx
   exact ⟨k, c, h1, h2, X'.pre.get h3⟩
end
noncomputable def w4q (t : Tr) : List AV -> Option (List (List Nat × Int × Int × Int))
 | [] => some []
 | .ref i :: l => match t.get i with
  | some (.list [.str s, .int (.lin c a b)]) => match qe0 s with
   | true => match w4q t l with
    | some r => some ((s, c, a, b) :: r)
    | none => none
   | false => none
  | _ => none
 | _ => none
noncomputable def qh6 : AM AF := fun st => match st.loc with
 | [_, some (.ref i), some (.ref j), _] => match st.H.t.get i with
  | some (.list xs) => match st.H.t.get j with
   | some (.list ys) => match w4q st.H.t xs, w4q st.H.t ys with
    | some l, some l' => match decide (l = l') && Nat.ble xs.length 60 && (Nat.ble 2 xs.length || Nat.beq xs.length 0) with
     | true => match eqM false (.ref j) (.ref i) st with
      | .ok (.bool true) _ => .ok .next st
      | _ => .bad
     | false => .bad
    | _, _ => .bad
   | _ => .bad
  | _ => .bad
 | _ => .bad
noncomputable def qk5 (k : Nat) (a : AV) : AM AF := fun st => match a with
 | .ref i => match st.H.t.get i with
  | some (.fn j [] none c) => match Nat.beq j k with
   | true => match st.H.t.get c with
    | some (.code m) => match Nat.beq m k with
     | true => .ok .next st
     | false => .bad
    | _ => .bad
   | false => .bad
  | _ => .bad
 | _ => .bad
noncomputable def qi3 (mt : Bool -> Nat -> Int -> Option SI) : List AV -> AM AV := jf0 1 3
 (seqM (xi9 (qm2 [((q8q [(locM 0)]).bind (qg6 mt)), ((q8q [(locM 0)]).bind (qa9 mt))]) (q7q 1) (q7q 2))
 (seqM ((lamM 3 1 231 21 []).bind (qk5 3)) (seqM qh6 (seqM ((lamM 4 1 232 68 []).bind (qk5 4)) (AM.ret (.ret (.bool true)))))))
noncomputable def mtOf (a0 a1 n1 p1 : Nat) (w : Bool) (d : Nat) (m : Int) : Option SI := match w with
 | false => if d = 1 /\ m = 3 then some (.lin (.ofNat a0) 0 0) else if d = 12 /\ m = 256 then some (.lin 0 1 0) else if d = 5 /\ m = 1 then some (.lin 0 0 0) else none
 | true => if d = 1 /\ m = 3 then some (.lin (.ofNat a1) 0 0) else if d = 3 /\ m = 4 then some (.lin (.ofNat n1) 0 0) else if d = 12 /\ m = 256 then some (.lin 0 0 1) else if d = 12 /\ m = 1 then some (.lin 0 0 0) else if d = 5 /\ m = 2 then some (.lin (.ofNat p1) 0 0) else none
noncomputable def numsOf : Nat -> List AV
 | 0 => []
 | 1 => [.int (.quo false 1)]
 | _ => [.int (.quo false 1), .int (.quo true 1)]
noncomputable def zf9 (o : Out AF) : Bool := match o with
 | .ok (.ret (.bool true)) _ => true
 | _ => false
section
variable {g : Gl} {prog : Program} {cx : Cx} {n : Nat}
theorem xg3 {A : Around} {x : Str} {p pos : Pos} {e : Expr} {es : List Expr} {f : AM AV} {fs : List (AM AV)} {u : Value} {V : List Addr} {st : St} {s : Shared} {Q E : VP} (hx : RefE g prog cx n (.Name x p) (AM.ret (.stat u))) (hk : qf2 g prog u) (hs : qc0 g prog cx n (e :: es) (f :: fs))
 (hA : AOk cx n A) (I : Inv g cx V st s) (hb : q8q (f :: fs) st ≠ .bad)
 (hQ : ∀ as vs st₁ VA s₁, q8q (f :: fs) st = .ok as st₁ -> reps g.ν VA as vs -> Inv g cx VA st₁ s₁ -> Ext cx V s.heap VA s₁.heap -> wpAny (model prog g.w) A (call u vs) Q E s₁)
 (hE : ∀ v s', EOk g cx V s (q8q (f :: fs) st) v s' -> E v s') :
 wpAny (model prog g.w) A (eval (.Call (.Name x p) (e :: es) [] pos) cx.env) Q E s := by
 refine wpAny_Call_Name_kw (w3z (hx A V st s hA trivial I (fun z => nomatch z)) ?_ ?_)
 . rintro v s₁ ⟨b, st₁, VA, e1, hr, I₁, XA⟩
   obtain ⟨rfl, rfl⟩ := z7q e1
   subst hr
   refine hk A pos [] _ _ _ s₁ (u0q hs) ?_
   have W := qb2 (pos := pos) hs A VA st s₁ hA trivial I₁ hb
   obtain ⟨y, rest, e2, e3⟩ := w6q (pos := pos) hs.2.1
   rw [e2] at W ⊢
   refine evalArgs_plain (w3z W ?_ ?_)
   . rintro vs sB ⟨as, stB, VB, q1, q2, q3, q4⟩
     exact ⟨q3.base, hQ as vs stB VB sB q1 q2 q3 (XA.trans q4)⟩
   . rintro v sB ⟨k, stB, VB, q1, q2, q3, q4⟩
     exact hE _ _ ⟨k, stB, VB, q1, q2.mono XA q4.pre, q3, XA.trans q4⟩
 . rintro v s₁ ⟨b, st₁, VA, e1, _⟩
   exact qj7 e1
theorem zr6 {V : List Addr} {st : St} {s : Shared} {i c k : Nat} {info : FnInfo} (I : Inv g cx V st s) (hi : st.H.t.get i = some (.fn k [] none c)) (hc : st.H.t.get c = some (.code k)) (hf : g.fns[k]? = some info) (hcl : info.clos = []) :
 ∃ a lc, V[i]? = some a /\ V[c]? = some lc /\ (∃ doc pm lct an, s.heap.get? a = some ⟨.type "function", none, .func ⟨info.name, info.qual, info.params, .expr info.body, info.scope, 3, [], .none, .none, doc, pm, an, .ref lc, lct, 0⟩, #[]⟩) /\ ∃ cd sl a0 r t, s.heap.get? lc = some (xe7 cd sl a0 r info.qual t) := by
 obtain ⟨a, o, h1, h2, ⟨fd, f1, f2, f3, f4, ⟨info', g1, g2, g3, g4, g5, g6, g7⟩, f5, f6, f7, f8, f9, cx', g8, g9⟩⟩ := I.heap i _ hi
 rw [hf] at g1
 obtain rfl := w4z g1
 obtain ⟨a', o', q1, q2, vs, t, info', q3, q4, q5, q6⟩ := I.heap c _ hc
 rw [hf] at q3
 obtain rfl := w4z q3
 rw [g8] at q1
 obtain rfl := w4z q1
 refine ⟨a, cx', h1, g8, ?_, ?_⟩
 . obtain ⟨oc, od, odt, osl⟩ := o
   obtain ⟨n1, n2, n3, n4, n5, n6, n7, n8, n9, n10, n11, n12, n13, n14, n15⟩ := fd
   simp only at f1 f2 f3 f4 g2 g3 g4 g5 g6 g7 f5 f6 f7 f8 g9
   subst f1 f2 f3 f4 g2 g3 g4 g5 g6 f5 f6 f7 f8 g9
   rw [hcl] at g7
   have : n7 = [] := List.map_eq_nil_iff.mp g7
   subst this
   exact ⟨_, _, _, _, h2⟩
 . obtain ⟨oc, od, odt, osl⟩ := o'
   simp only at q4 q6
   subst q4 q6
   obtain ⟨l⟩ := vs
   cases l with
   | nil => simp at q5
   | cons a0 r =>
    cases r with
    | nil => simp at q5
    | cons b r =>
     simp at q5
     subst q5
     exact ⟨_, _, _, _, _, q2⟩
end
noncomputable def nmR : List Str := ["cells", "due", "told", "key"]
noncomputable def fdR (P : PySem.Params) : FuncData := match (KG P).lookup 222 with
 | some ⟨_, _, .func fd, _⟩ => fd
 | _ => ⟨"", "", ⟨[], [], none, [], [], none, []⟩, .stmts [], ⟨.function, [], false, false, []⟩, 0, [], .none, .none, .none, .none, none, .none, .none, 0⟩
noncomputable def cxR (P : PySem.Params) (L : Addr) (fr : List Env) : Cx := ⟨callEnv (fdR P) L 222, nmR, [], callEnv (fdR P) L 222 :: fr, true⟩
noncomputable def Away (cx : Cx) (V : List Addr) (a : Addr) : Prop := a ∉ V /\ a ≠ cx.env.locals /\ ¬ Fs cx.fr a
section
variable {g : Gl}
theorem Inv.away {cx : Cx} {V : List Addr} {st : St} {s : Shared} (I : Inv g cx V st s) {a : Addr} (h : s.heap.get? a = none) : Away cx V a := let x := I.none_of h; ⟨x.2.2.2, x.2.1, x.2.2.1⟩
theorem Away.ext {cx : Cx} {V ρ' : List Addr} {h h' : Heap} {a : Addr} {o : Obj} (x : Away cx V a) (e : h.get? a = some o) (X : Ext cx V h ρ' h') : Away cx ρ' a /\ h'.get? a = some o :=
 ⟨⟨fun q => (by have z := (X.fresh a q x.1).1; exact k2q (e.symm.trans z)), x.2⟩, (X.keep a o e x.1 x.2.1).1 x.2.2⟩
noncomputable def xm5 (cx : Cx) (V : List Addr) (h : Heap) (F : List (Addr × Obj)) : Prop := ∀ p ∈ F, Away cx V p.1 /\ h.get? p.1 = some p.2
theorem xm5.ext {cx : Cx} {V ρ' : List Addr} {h h' : Heap} {F : List (Addr × Obj)} (x : xm5 cx V h F) (X : Ext cx V h ρ' h') : xm5 cx ρ' h' F := fun p hp => (x p hp).1.ext (x p hp).2 X
theorem cd41 (S : Sit g) : CodeHd g.U 41 37 := ⟨_, _, _, _, _, _, _, _, _, S.X 41 _ rfl, rfl, rfl, rfl, rfl, rfl, rfl, rfl, rfl, by decide⟩
theorem bmR (S : Sit g) (h37 : g.U.get? 37 = none) : g.U.BuiltinsAt g.mg 37 := by
 obtain ⟨bm, ob, b1, b2, b3, b4, b5, b6⟩ := S.B
 refine ⟨bm, ob, b1, b2, ?_, ?_, b3, b4, b5, b6⟩
 . rintro rfl
   obtain ⟨o, es, ep, h1, h2, _⟩ := S.G.ng
   obtain rfl := w4z (b3.symm.trans h1)
   rw [b6] at h2; cases h2
 . rintro rfl
   exact k2q (b3.symm.trans h37)
theorem ji8 (S : Sit g) : g.mg "cmp_to_key" = some (.ref 42) := S.mg (by rfl)
theorem mg_nm (S : Sit g) : g.mg "__name__" = some (.str "law_ik0059_01" 419) := S.mg (by rfl)
set_option tactic.hygienic true in
theorem zh7 {k : Nat} {a : AV} {st st' : St} {y : AF} (h : qk5 k a st = .ok y st') : y = .next /\ st' = st /\ ∃ i c, a = .ref i /\ st.H.t.get i = some (.fn k [] none c) /\ st.H.t.get c = some (.code k) := by
 cases a <;> try exact j1q h
 rename_i i
 unfold qk5 at h
 dsimp only at h
 generalize e1 : st.H.t.get i = o at h
 rcases o with _ | o <;> try exact j1q h
 cases o <;> try exact j1q h
 rename_i j cl d c
 rcases cl with _ | ⟨_, _⟩ <;> try exact j1q h
 rcases d with _ | _ <;> try exact j1q h
 dsimp only at h
 generalize e2 : Nat.beq j k = q at h
 cases q
 . exact j1q h
 dsimp only at h
 generalize e3 : st.H.t.get c = o at h
 rcases o with _ | o <;> try exact j1q h
 cases o <;> try exact j1q h
 rename_i m
 dsimp only at h
 generalize e4 : Nat.beq m k = q at h
 cases q
 . exact j1q h
 obtain rfl := Nat.eq_of_beq_eq_true e2
 obtain rfl := Nat.eq_of_beq_eq_true e4
 obtain ⟨rfl, rfl⟩ := z7q h
 exact ⟨rfl, rfl, i, c, rfl, e1, e3⟩
theorem zs4 {k : Nat} {a : AV} {st st' : St} (h : qk5 k a st = .ok .next st') : st' = st /\ ∃ i c, a = .ref i /\ st.H.t.get i = some (.fn k [] none c) /\ st.H.t.get c = some (.code k) := (zh7 h).2
theorem v6q {β γ : Type} {f : AM β} {k : β -> AM γ} {st st' : St} {x : γ} (h : f.bind k st = .ok x st') : ∃ b st₁, f st = .ok b st₁ /\ k b st₁ = .ok x st' := by
 unfold AM.bind at h
 induction e : f st with
 | ok b st₁ => rw [e] at h; exact ⟨b, st₁, rfl, h⟩
 | exc k s => exact zl1 (e ▸ h)
 | bad => exact j1q (e ▸ h)
theorem zm6 (S : Sit g) {L : Addr} {fr : List Env} {n : Nat} {A : Around} {V : List Addr} {st stB : St} {s : Shared} {ok : Option KD} {Q : Flow -> Shared -> Prop} {E : VP} {le : Expr} {p p2 p3 p4 : Pos} (hA : AOk (cxR g.w.params L fr) n A) (hn : 300 <= n) (I : Inv g (cxR g.w.params L fr) V st s) (K : KIn g V s.heap ok)
 (hle : RefE g PySem.Challenge.rw_ik0059_01.prog (cxR g.w.params L fr) n le (lamM 3 1 231 21 [])) (hst : starEach [le] (cxR g.w.params L fr).env = (false, eval le (cxR g.w.params L fr).env) :: starEach [] (cxR g.w.params L fr).env)
 (hsw : swapsWith (.Call (.Name "cmp_to_key" p2) [le] [] p3) (some (.Name "key" p)) p4.line (cxR g.w.params L fr).env = pure false)
 (hb : (lamM 3 1 231 21 []).bind (qk5 3) st = .ok .next stB) (hl : stB.loc.length = 4)
 (hQ : ∀ C cell lam kd lt F ρ' s', Inv g (cxR g.w.params L fr) ρ' { stB with loc := stB.loc.set 3 (some (.stat (.ref C))) } s' -> KIn g ρ' s'.heap (some kd) -> ExtN (cxR g.w.params L fr) V s.heap ρ' s'.heap -> KSet g.w.params cell lam C lt F -> xm5 (cxR g.w.params L fr) ρ' s'.heap F ->
  (∃ i c, stB.H.t.get i = some (.fn 3 [] none c) /\ stB.H.t.get c = some (.code 3) /\ ρ'[i]? = some lam) -> Q .next s') :
 wpAny (model PySem.Challenge.rw_ik0059_01.prog g.w) A (exec (.Assign [.Name "key" p] (.Call (.Name "cmp_to_key" p2) [le] [] p3) p4) (cxR g.w.params L fr).env) Q E s := by
 obtain ⟨a, st₁, e0, e1⟩ := v6q hb
 obtain ⟨rfl, i, c, rfl, e2, e3⟩ := zs4 e1
 have hit : q8q [lamM 3 1 231 21 []] st = .ok [.ref i] stB := by
  unfold q8q AM.bind
  rw [e0]
  rfl
 refine wpAny_Assign_Name ?_ hsw
 refine xg3 (f := lamM 3 1 231 21 []) (fs := []) (k9q S.G (ji8 S) rfl rfl rfl rfl) (w8q (S.X 42 _ rfl) rfl) ⟨hle, hst, trivial⟩ hA I (by rw [hit]; intro z; exact qt8 z) ?_ (fun v s' z => by
  obtain ⟨k, _, _, z, _⟩ := z
  exact qj7 (hit.symm.trans z))
 intro as vs st₁ VA s₁ q1 q2 I₁ XA
 rw [hit] at q1
 obtain ⟨rfl, rfl⟩ := z7q q1
 obtain ⟨v, rfl, lam, hlam, hv⟩ := jg7 q2
 subst hv
 have K₁ := K.ext I XA
 have hg := I₁.gens
 obtain ⟨h1, g1, d1, t1, o1⟩ := s₁
 dsimp only at hg
 subst hg
 refine p1 (by have := hA.depth; omega) (by have := hA.units; omega) (hA.quiet rfl) (fun a o e => I₁.base a o (S.X a o e)) K₁.ks ((cd41 S).keeps I₁.base) ((j5q S rfl rfl rfl rfl).keeps I₁.base) (S.G.ng.keeps I₁.base) ((bmR S K.z).keeps I₁.base) (mg_nm S) (zd8 S) (S.G.nl.keeps I₁.base) (fun C cell kd lt F h' tk' k1 S1 F1 M1 Z1 O1 => ?_)
 have IB := I₁.side (own := fun b => b = 37) (h' := h') tk' (fun b e => by
  subst e
  obtain ⟨vs, e37⟩ := K₁.ks.t37
  obtain ⟨n1, n2⟩ := I₁.nodict e37 (fun _ _ z => by cases z)
  exact ⟨K₁.z, K₁.o37, n1, n2⟩) (fun b o e n => k1 b o e n)
 have KB : KIn g VA h' (some kd) := ⟨S1, K₁.z, K₁.o37, fun k e a m => by
  obtain rfl := w4z e
  induction ok with
  | none => exact (I₁.none_of (F1 rfl a m)).2.2.2
  | some k0 => rw [M1 k0 rfl] at m; exact K₁.os k0 rfl a m⟩
 have XB : ExtN (cxR g.w.params L fr) VA h1 VA h' := ExtN.grow k1 KB.l37
 have XA' : ExtN (cxR g.w.params L fr) V s.heap VA h1 := ExtN.of XA K₁.l37
 have hsl : q7q 3 (.stat (.ref C)) stB ≠ .bad := by
  unfold q7q
  rw [hl]
  intro z; exact qt8 z
 refine w3z (q5q (g := g) (prog := PySem.Challenge.rw_ik0059_01.prog) (n := n) (cx := cxR g.w.params L fr) (x := "key") (i := 3) rfl (uniq (l := nmR) (by decide +kernel) rfl) rfl rfl (.stat (.ref C)) (.ref C) A VA stB ⟨h', #[], d1, tk', o1⟩ hA rfl IB hsl) ?_ ?_
 . rintro _ sC ⟨b, stC, VC, e4, _, IC, XC⟩
   unfold q7q at e4
   rw [hl] at e4
   obtain ⟨rfl, rfl⟩ := z7q e4
   have K₃ := KB.ext IB XC
   refine hQ C cell lam kd lt F VC sC IC K₃ ((XA'.trans XB).trans (ExtN.of XC K₃.l37)) O1.set (xm5.ext (V := VA) (h := h') ?_ XC) ⟨i, c, e2, e3, XC.pre.get hlam⟩
   have aw : ∀ {a : Addr}, h1.get? a = none -> Away (cxR g.w.params L fr) VA a := fun {a} z => I₁.away z
   have ac : ∀ {a : Addr} {o : Obj}, a ∈ kd.all -> h'.get? a = some o -> (∀ es n, o.data ≠ .dict es n) -> Away (cxR g.w.params L fr) VA a := fun {a o} m e nd => ⟨KB.os kd rfl a m, IB.nodict e nd⟩
   intro q hq
   have e := O1.all q hq
   refine ⟨?_, e⟩
   rcases O1.nw q hq with z | ⟨m, z⟩ | z
   . exact aw z
   . exact ac m e (fun es n y => O1.set.nodict q hq z es n y)
   . rw [z]; exact aw Z1
 . rintro v s' ⟨k, st', ρ', z, _⟩
   unfold q7q at z
   rw [hl] at z
   exact qj7 z
end
noncomputable def runR {α : Type} (R : Nat -> Nat -> Bool) : KasT α -> α
 | .ret a => a
 | .ask i j k => runR R (k (R i j))
noncomputable def Asks {α : Type} (n : Nat) (P : α -> Prop) : KasT α -> Prop
 | .ret a => P a
 | .ask i j k => i < n /\ j < n /\ ∀ b, Asks n P (k b)
theorem Asks.bind {α β : Type} {n : Nat} {P : α -> Prop} {P' : β -> Prop} {f : α -> KasT β} : ∀ {t : KasT α}, Asks n P t -> (∀ a, P a -> Asks n P' (f a)) -> Asks n P' (t.bind f)
 | .ret a, h, hf => hf a h
 | .ask i j k, h, hf => ⟨h.1, h.2.1, fun b => Asks.bind (h.2.2 b) hf⟩
theorem Asks.run {α : Type} {n : Nat} {P : α -> Prop} {R : Nat -> Nat -> Bool} : ∀ {t : KasT α}, Asks n P t -> P (runR R t)
 | .ret a, h => h
 | .ask i j k, h => (Asks.run (h.2.2 (R i j)) : P (runR R (k (R i j))))
theorem zc2 {α : Type} {n : Nat} {P : α -> Prop} {R : Nat -> Nat -> Bool} {cmp : Nat -> Nat -> (Bool -> Shared -> Prop) -> Shared -> Prop} {Z : Shared -> Prop} {Q : α -> Shared -> Prop}
 (hc : ∀ i j C s, i < n -> j < n -> Z s -> (∀ s', Z s' -> C (R i j) s') -> cmp i j C s) : ∀ {t : KasT α} {s : Shared}, Asks n P t -> Z s -> (∀ s', Z s' -> Q (runR R t) s') -> t.kasWp cmp Q s
 | .ret a, s, _, hz, hq => hq s hz
 | .ask i j k, s, h, hz, hq => hc i j _ s h.1 h.2.1 hz fun s' hz' => zc2 hc (h.2.2 (R i j)) hz' hq
noncomputable def IsPm (n : Nat) (p : Array Nat) : Prop := p.Perm (List.toArray (List.range n))
theorem IsPm.mem {n : Nat} {p : Array Nat} (h : IsPm n p) {x : Nat} (hx : x ∈ p) : x < n := by
 have := (h.mem_iff (a := x)).mp hx
 simpa using this
theorem IsPm.get {n : Nat} {p : Array Nat} (h : IsPm n p) (hn : 0 < n) (i : Nat) : p.getD i 0 < n := by
 by_cases q : i < p.size
 . have : p.getD i 0 = p[i] := by simp [Array.getD, q]
   rw [this]
   exact h.mem (Array.getElem_mem q)
 . have : p.getD i 0 = 0 := by simp [Array.getD, q]
   rw [this]; exact hn
theorem IsPm.rev {n : Nat} {p : Array Nat} (h : IsPm n p) (i j : Nat) : IsPm n (kas_rev p i j) := (mirror_perm _ _ _ _).trans h
theorem IsPm.bub {n : Nat} {p : Array Nat} (h : IsPm n p) (i j : Nat) : IsPm n (bubble p i j) := (bubble_perm _ _ _).trans h
section
variable {n : Nat} (hn : 0 < n)
include hn
theorem xg9 {p : Array Nat} (h : IsPm n p) : ∀ f m, Asks n (fun _ => True) (kas_asc p f m)
 | 0, _ => trivial
 | f + 1, m => ⟨h.get hn _, h.get hn _, fun b => by
  dsimp only
  split
  . exact trivial
  . exact xg9 h f (m + 1)⟩
theorem qq5 : ∀ f {p : Array Nat} (_ : IsPm n p) m q, Asks n (fun r => IsPm n r.1) (kas_desc f p m q)
 | 0, _, h, _, _ => h
 | f + 1, p, h, m, q => ⟨h.get hn _, h.get hn _, fun c => by
  dsimp only
  split
  . split
    . exact qq5 f (h.rev _ _) _ _
    . exact qq5 f h _ _
  . refine ⟨h.get hn _, h.get hn _, fun d => ?_⟩
    dsimp only
    split
    . exact h
    . exact qq5 f h _ _⟩
theorem xc4 {p : Array Nat} (h : IsPm n p) (m nrem : Nat) : Asks n (fun r => IsPm n r.2) (kas_tail3 m nrem p) :=
 Asks.bind (xg9 hn (h.rev _ _) _ _) fun _ _ => h.rev _ _
theorem qq4 {p : Array Nat} (h : IsPm n p) (m nrem : Nat) : Asks n (fun r => IsPm n r.2) (kas_descPart m nrem p) :=
 Asks.bind (qq5 hn _ h _ _) fun r hr => by
  split
  . exact xc4 hn (hr.rev _ _) _ _
  . exact xc4 hn hr _ _
theorem za2 {p : Array Nat} (h : IsPm n p) (nrem : Nat) : Asks n (fun r => IsPm n r.2) (kas_count nrem p) :=
 Asks.bind (xg9 hn h _ _) fun m _ => by
  split
  . exact h
  . split
    . refine ⟨h.get hn _, h.get hn _, fun c => ?_⟩
      dsimp only
      split
      . exact h
      . exact qq4 hn (h.rev _ _) _ _
    . exact qq4 hn h _ _
theorem qs3 {p : Array Nat} (h : IsPm n p) (k : Nat) : ∀ f l r, Asks n (fun _ => True) (kas_place p k f l r)
 | 0, _, _ => trivial
 | f + 1, l, r => by
  rw [kas_place]
  split
  . exact trivial
  . refine ⟨h.get hn _, h.get hn _, fun c => ?_⟩
    dsimp only
    split
    . exact qs3 h k f _ _
    . exact qs3 h k f _ _
theorem xw0 : ∀ f {p : Array Nat} (_ : IsPm n p) k, Asks n (IsPm n) (kas_bin f p k)
 | 0, _, h, _ => h
 | f + 1, p, h, k => Asks.bind (qs3 hn h _ _ _ _) fun l _ => xw0 f (h.bub _ _) _
theorem xm3 : Asks n (IsPm n) (kas_sort n) :=
 Asks.bind (za2 hn (Array.Perm.refl _) _) fun r hr => by
  split
  . exact xw0 hn _ hr _
  . exact hr
end
noncomputable def H0 : Heap := {}
theorem xf2 (a : Addr) : H0.get? a = none := Heap.get?_none_of_le (Nat.zero_le _)
noncomputable def qb0 (L : Addr) (h : Heap) : List (Addr × Obj) := (List.range h.objs.size).filterMap fun a => if a = L then none else (h.get? a).map fun o => (a, o)
theorem ql6 {L : Addr} {h : Heap} {p : Addr × Obj} : p ∈ qb0 L h ↔ p.1 ≠ L /\ h.get? p.1 = some p.2 := by
 obtain ⟨a, o⟩ := p
 unfold qb0
 rw [List.mem_filterMap]
 constructor
 . rintro ⟨b, hb, e⟩
   by_cases q : b = L
   . rw [if_pos q] at e; exact q6q e
   . rw [if_neg q] at e
     induction hg : h.get? b with
     | none => rw [hg] at e; exact q6q e
     | some x => rw [hg] at e; cases e; exact ⟨q, hg⟩
 . rintro ⟨h1, h2⟩
   refine ⟨a, List.mem_range.mpr (Heap.lt_size h2), ?_⟩
   rw [if_neg h1, show h.get? a = some o from h2]
   rfl
theorem xq3 {L : Addr} {h : Heap} : News H0 L h (qb0 L h) := fun p hp => by
 obtain ⟨h1, h2⟩ := ql6.mp hp
 exact ⟨h2, h1, xf2 _⟩
noncomputable def za7 (h h' : Heap) : Prop := ∀ b o, h.get? b = some o -> h'.get? b = some o
theorem za7.fr {L : Addr} {h h' : Heap} {m : Str -> Option Value} (g : za7 h h') (F : Fr H0 L h m) : Fr H0 L h' m := ⟨F.ns.keeps g, fun b o e => (by rw [xf2] at e; exact q6q e), F.above⟩
theorem za7.news {L : Addr} {h h' : Heap} {N : List (Addr × Obj)} (g : za7 h h') (F : News H0 L h N) : News H0 L h' N := fun p hp => ⟨g _ _ (F p hp).1, (F p hp).2⟩
noncomputable def qh3 (h : Heap) (X : List (Addr × Obj)) : Prop := ∀ p ∈ X, h.get? p.1 = some p.2
section
variable {prog : Program} {w : World} {A : Around} {E : VP}
noncomputable def qg1 (KP : Value -> Nat -> List (Addr × Obj) -> Prop) : List Value -> Nat -> List (Addr × Obj) -> Prop
 | [], _, X => X = []
 | k :: ks, i, X => ∃ XA XB, X = XA ++ XB /\ KP k i XA /\ qg1 KP ks (i + 1) XB
theorem qg1.snoc {KP : Value -> Nat -> List (Addr × Obj) -> Prop} {k : Value} {Y : List (Addr × Obj)} : ∀ {ks : List Value} {i : Nat} {X : List (Addr × Obj)}, qg1 KP ks i X -> KP k (i + ks.length) Y -> qg1 KP (ks ++ [k]) i (X ++ Y)
 | [], i, X, h, hk => by subst h; exact ⟨Y, [], by simp, hk, rfl⟩
 | a :: ks, i, X, ⟨XA, XB, e, h1, h2⟩, hk => ⟨XA, XB ++ Y, by rw [e, List.append_assoc], h1, qg1.snoc h2 (by rw [List.length_cons] at hk; rw [show i + 1 + ks.length = i + (ks.length + 1) by exact Nat.add_right_comm ..]; exact hk)⟩
theorem qg1.get {KP : Value -> Nat -> List (Addr × Obj) -> Prop} : ∀ {ks : List Value} {i j : Nat} {X : List (Addr × Obj)} {k : Value}, qg1 KP ks i X -> ks[j]? = some k -> ∃ Y, KP k (i + j) Y /\ ∀ p ∈ Y, p ∈ X
 | [], _, _, _, _, _, e => by simp at e
 | a :: ks, i, 0, X, k, ⟨XA, XB, e, h1, h2⟩, hj => by
  simp at hj; subst hj
  exact ⟨XA, h1, fun p hp => by rw [e]; exact List.mem_append_left _ hp⟩
 | a :: ks, i, j + 1, X, k, ⟨XA, XB, e, h1, h2⟩, hj => by
  obtain ⟨Y, y1, y2⟩ := qg1.get (j := j) h2 (by simpa using hj)
  exact ⟨Y, by rw [show i + (j + 1) = i + 1 + j by exact (Nat.succ_add_eq_add_succ _ _).symm]; exact y1, fun p hp => by rw [e]; exact List.mem_append_right _ (y2 p hp)⟩
theorem xa5 {l q L : Addr} {m : Str -> Option Value} {vs : List Value} {κ : SortKind} {R : Nat -> Nat -> Bool} {KP : Value -> Nat -> List (Addr × Obj) -> Prop} {Z : Shared -> Prop} {Q : VP} {s : Shared}
 (hL : s.heap.Ns L m) (hl : s.heap.IsList l vs.toArray) (h2 : 2 <= vs.length) (h64 : vs.length < 64)
 (hZ : ∀ (s' : Shared) (h' : Heap), Z s' -> Z { s' with heap := h' }) (hz : Z s)
 (hkey : ∀ i v, vs[i]? = some v -> ∀ (s' : Shared), Z s' -> qh3 s'.heap (qb0 L s.heap) -> s'.heap.Ns L m -> ∀ C : Value -> Shared -> Prop, (∀ k X s'', KP k i X -> (∀ p ∈ X, s''.heap.get? p.1 = some p.2 /\ s'.heap.get? p.1 = none) -> za7 s'.heap s''.heap -> Z s'' -> C k s'') -> wpAny (model prog w) A.in1.in1 (call (.ref q) [v]) C (fun _ _ => False) s')
 (hkind : ∀ ks X (s' : Shared), ks.length = vs.length -> qg1 KP ks 0 X -> qh3 s'.heap X -> Z s' -> ∀ C : SortKind -> Shared -> Prop, C κ s' -> wpAny (model prog w) A.in1.in1 (keyKind' (List.toArray ks)) C (fun _ _ => False) s')
 (hlt : ∀ i j k k' X Y (s' : Shared), i < vs.length -> j < vs.length -> KP k i X -> KP k' j Y -> qh3 s'.heap X -> qh3 s'.heap Y -> qh3 s'.heap (qb0 L s.heap) -> s'.heap.Ns L m -> Z s' -> ∀ C : Bool -> Shared -> Prop, (∀ s'', za7 s'.heap s''.heap -> Z s'' -> C (R i j) s'') -> wpAny (model prog w) A.in1.in1 (keyLt' κ k k') C (fun _ _ => False) s')
 (hQ : ∀ D c s', s.heap.get? D = none -> s'.heap.get? D = some (listOf (List.toArray ((runR R (kas_sort vs.length)).toList.map fun i => vs.getD i Value.none)) c) -> qh3 s'.heap (qb0 L s.heap) -> s'.heap.Ns L m -> Z s' -> Q (.ref D) s') :
 wpAny (model prog w) A (call (.builtin "sorted") [.ref l] [(Str.ofString "key", .ref q)]) Q E s := by
 have F0 : Fr H0 L s.heap m := ⟨hL, fun b o e => (by rw [xf2] at e; exact q6q e), Nat.zero_le _⟩
 refine kat_sortedK F0 xq3 hl h2 h64 (ksk_s1 _ _) (fun x => ksk_l1 _ _) (fun x => ksk_t1 _ _) fun D kS e1 h' F' N' l0 l1 => ?_
 have hLs : L < s.heap.objs.size := hL.lt
 have hLD : L ≠ D := by
  have := (N' (D, seqObj "list" #[] e1) (w9z _ (.head _))).2.1
  exact fun z => this z.symm
 have hDn : s.heap.get? D = none := by
  induction hg : s.heap.get? D with
  | none => rfl
  | some o => exact absurd (l1 (D, o) (ql6.mpr ⟨fun z => hLD z.symm, hg⟩)) (Nat.lt_irrefl _)
 have ne1 : ∀ p ∈ qb0 L s.heap, p.1 ≠ kS := fun p hp z => Nat.lt_asymm (z ▸ l1 p hp) l0
 have ne2 : ∀ p ∈ qb0 L s.heap, p.1 ≠ D := fun p hp z => Nat.lt_irrefl _ (z ▸ l1 p hp : D < D)
 have nDk : D ≠ kS := Nat.ne_of_lt l0
 -- the keys
 have keys : ∀ (r ks : List Value) (e : Nat) (X : List (Addr × Obj)) (s' : Shared), (∃ pre, vs = pre ++ r /\ pre.length = ks.length) -> qg1 KP ks 0 X -> (∀ p ∈ X, p.1 ≠ kS /\ p.1 ≠ D /\ p.1 ≠ L) -> Fr H0 L s'.heap m -> News H0 L s'.heap ((kS, seqObj "list" (List.toArray ks) e) :: (D, seqObj "list" #[] e1) :: (X ++ qb0 L s.heap)) -> Z s' ->
  KatKeys prog w A.in1.in1 H0 L m kS (.ref q) (fun ks e s' => wpAny (model prog w) A.in1.in1 (keyKind' (List.toArray ks)) (fun κ s'' => (kas_sort vs.length).kasWp (kas_ask prog w A.in1.in1 κ (katRev false ks)) (fun p s3 => KatFin H0 L m kS D ks e e1 (katRev false (p.toList.map fun i => (katRev false vs).getD i Value.none)) (fun s4 => Q (.ref D) s4) s3) s'') (fun _ _ => False) s') r ks e s' := by
  intro r
  induction r with
  | nil =>
   intro ks e X s' hp hk hX F N hz'
   obtain ⟨pre, e0, e2⟩ := hp
   rw [List.append_nil] at e0
   subst e0
   refine KatKeys.nil ?_
   have hHX : qh3 s'.heap X := fun p hp => (N p (w9z _ (w9z _ (List.mem_append_left _ hp)))).1
   refine hkind ks X s' e2.symm hk hHX hz' _ ?_
   let Zs : Shared -> Prop := fun t => Z t /\ Fr H0 L t.heap m /\ News H0 L t.heap ((kS, seqObj "list" (List.toArray ks) e) :: (D, seqObj "list" #[] e1) :: (X ++ qb0 L s.heap))
   refine zc2 (n := vs.length) (P := IsPm vs.length) (R := R) (Z := Zs) (fun i j C t hi hj ht hc => ?_) (xm3 (by exact Nat.le_of_lt (by assumption))) ⟨hz', F, N⟩ fun t ht => ?_
   . obtain ⟨t1, t2, t3⟩ := ht
     have hHt : ∀ p, p ∈ X \/ p ∈ qb0 L s.heap -> t.heap.get? p.1 = some p.2 := fun p hp => (t3 p (w9z _ (w9z _ (List.mem_append.mpr hp)))).1
     obtain ⟨ki, hki⟩ : ∃ k, ks[i]? = some k := ⟨_, List.getElem?_eq_getElem (by exact Nat.lt_of_lt_of_eq (by assumption) (by assumption))⟩
     obtain ⟨kj, hkj⟩ : ∃ k, ks[j]? = some k := ⟨_, List.getElem?_eq_getElem (by exact Nat.lt_of_lt_of_eq (by assumption) (by assumption))⟩
     obtain ⟨Y1, y1, y2⟩ := hk.get hki
     obtain ⟨Y2, y3, y4⟩ := hk.get hkj
     rw [Nat.zero_add] at y1 y3
     unfold kas_ask
     rw [show (katRev false ks).getD i Value.none = ki by show ks.getD i Value.none = ki; rw [List.getD_eq_getElem?_getD, hki]; rfl, show (katRev false ks).getD j Value.none = kj by show ks.getD j Value.none = kj; rw [List.getD_eq_getElem?_getD, hkj]; rfl]
     exact hlt i j ki kj Y1 Y2 t hi hj y1 y3 (fun p hp => hHt p (.inl (y2 p hp))) (fun p hp => hHt p (.inl (y4 p hp))) (fun p hp => hHt p (.inr hp)) t2.ns t1 C fun t' g' hz'' => hc t' ⟨hz'', g'.fr t2, g'.news t3⟩
   . obtain ⟨t1, t2, t3⟩ := ht
     refine KatFin.intro t2 t3 (.head fun p hp => ?_) fun h'' c F'' N'' => ?_
     . rcases List.mem_cons.mp hp with rfl | hp
       . exact nDk
       . rcases List.mem_append.mp hp with hp | hp
         . exact (hX p hp).1
         . exact ne1 p hp
     . refine KasFin.intro F'' N'' (.tail (fun z => nDk z.symm) (.head fun p hp => ?_)) fun h3 c3 F3 N3 => ?_
       . rcases List.mem_append.mp hp with hp | hp
         . exact (hX p hp).2.1
         . exact ne2 p hp
       . exact hQ D c3 _ hDn (N3 _ (w9z _ (.head _))).1 (fun p hp => (N3 p (w9z _ (w9z _ (List.mem_append_right _ hp)))).1) F3.ns (hZ _ _ (hZ _ _ t1))
  | cons v r ih =>
   intro ks e X s' hp hk hX F N hz'
   obtain ⟨pre, e0, e2⟩ := hp
   refine KatKeys.cons ?_
   have hv : vs[ks.length]? = some v := by rw [e0, <- e2]; simp
   refine hkey ks.length v hv s' hz' (fun p hp => (N p (w9z _ (w9z _ (List.mem_append_right _ hp)))).1) F.ns _ fun k Y s'' hkp hY hg hz'' => ?_
   have N1 := hg.news N
   have F1 := hg.fr F
   have dead : ∀ p ∈ Y, ∀ o b, s'.heap.get? b = some o -> p.1 ≠ b := fun p hp o b hb z => by
    have := (hY p hp).2
    rw [z, hb] at this; exact k2q this
   have hYn : ∀ p ∈ Y, p.1 ≠ kS /\ p.1 ≠ D /\ p.1 ≠ L := fun p hp => by
    obtain ⟨oL, _, _, hoL, _⟩ := F.ns
    exact ⟨dead p hp _ _ (N _ (.head _)).1, dead p hp _ _ (N _ (w9z _ (.head _))).1, dead p hp _ _ hoL⟩
   have hXY : ∀ p ∈ X ++ Y, p.1 ≠ kS /\ p.1 ≠ D /\ p.1 ≠ L := fun p hp => (List.mem_append.mp hp).elim (hX p) (hYn p)
   have N2 : News H0 L s''.heap ((kS, seqObj "list" (List.toArray ks) e) :: (D, seqObj "list" #[] e1) :: ((X ++ Y) ++ qb0 L s.heap)) := fun p hp => by
    rcases List.mem_cons.mp hp with rfl | hp
    . exact N1 _ (.head _)
    . rcases List.mem_cons.mp hp with rfl | hp
      . exact N1 _ (w9z _ (.head _))
      . rcases List.mem_append.mp hp with hp | hp
        . rcases List.mem_append.mp hp with hp | hp
          . exact N1 p (w9z _ (w9z _ (List.mem_append_left _ hp)))
          . exact ⟨(hY p hp).1, (hYn p hp).2.2, xf2 _⟩
        . exact N1 p (w9z _ (w9z _ (List.mem_append_right _ hp)))
   refine KatBack.intro F1 N2 (.head fun p hp => ?_) fun h3 c F3 N3 => ?_
   . rcases List.mem_cons.mp hp with rfl | hp
     . exact nDk
     . rcases List.mem_append.mp hp with hp | hp
       . exact (hXY p hp).1
       . exact ne1 p hp
   . exact ih (ks ++ [k]) c (X ++ Y) _ ⟨pre ++ [v], by rw [e0]; simp, by simp [e2]⟩ (hk.snoc (by rw [Nat.zero_add]; exact hkp)) hXY F3 N3 (hZ _ _ hz'')
 exact keys vs [] 0 [] _ ⟨[], rfl, rfl⟩ rfl (fun p hp => by cases hp) F' N' (hZ _ _ hz)
end
noncomputable def zv8 (P : PySem.Params) (c : Addr) (dct : Option Addr) (doc pm ct : Value) (an : Option Addr) : Obj := ⟨.type "function", dct, .func ⟨(qb3 P).name, (qb3 P).qual, (qb3 P).params, .expr (qb3 P).body, (qb3 P).scope, 3, [], .none, .none, doc, pm, an, .ref c, ct, 0⟩, #[]⟩
noncomputable def kTup (z : Int) (t : Tok) (x : Str) (u : Tok) (n : Nat) : Obj := ⟨.type "tuple", none, .seq #[.int z t, .str x u] n, #[]⟩
theorem k4_is (P) : LamIs (qb3 P) [("one" : Str)] := ⟨by kernel_rfl, fun x hx => by rw [List.mem_singleton.mp hx]; kernel_rfl, by kernel_rfl, by kernel_rfl, by kernel_rfl⟩
inductive K4Body : Expr -> Prop
 | mk (p1 p2 p3 p4 p5 p6 p7 p8 p9 : Pos) : K4Body (.Tuple [.BinOp (.Constant (.int 0) 0 p1) .Sub (.Subscript (.Name "one" p2) (.Constant (.int 1) 0 p3) p4) p5, .Subscript (.Name "one" p6) (.Constant (.int 0) 0 p7) p8] 0 p9)
theorem zw4 (P) : K4Body (qb3 P).body := .mk _ _ _ _ _ _ _ _ _
noncomputable def kFd4 (P : PySem.Params) (lc : Addr) (doc pm lct : Value) (an : Option Addr) : FuncData := ⟨(qb3 P).name, (qb3 P).qual, (qb3 P).params, .expr (qb3 P).body, (qb3 P).scope, 3, [], .none, .none, doc, pm, an, .ref lc, lct, 0⟩
theorem zw5 {P lc doc pm lct an} (a : Value) : bindArgs (kFd4 P lc doc pm lct an) ⟨[a], []⟩ = pure [(("one" : Str), a)] := by kernel_rfl
section
theorem jj8 {prog : Program} {w : World} {A : Around} {E : VP} {env : Env} {s : Shared} {e : Expr} {m : Str -> Option Value} {p : Addr} {x : Str} {z : Int} {t u : Tok} {n : Nat} {Q : VP} (he : K4Body e) (hk : env.scope.kind = .function) (h1 : env.kindOf "one" = some .local) (hn : s.heap.Ns env.locals m) (m1 : m "one" = some (.ref p)) (hp : s.heap.get? p = some (qr8 x t z u n))
 (hQ : ∀ tk t1, Q (.ref s.heap.objs.size) { s with heap := s.heap.push (kTup (0 - z) t1 x t 0), toks := tk }) : wpAny (model prog w) A (eval e env) Q E s := by
 cases he
 have la : s.heap.IsList p #[.str x t, .int z u] := ⟨_, hp, rfl, n, rfl⟩
 refine wpAny_Tuple (wpAny_items_cons (wpAny_BinOp (wpAny_Constant_int (xu2 (s := { s with toks := s.toks + 1 }) hk h1 rfl hn m1 la (by decide) (by decide) rfl fun tk => sub_int ?_))))
 exact wpAny_items_cons (xu2 (s := { s with toks := tk + 1 }) hk h1 rfl hn m1 la (by decide) (by decide) rfl fun tk' => wpAny_items_nil ⟨Nat.le_trans (show (2 : Nat) <= 63 by decide) (by decide), hQ _ _⟩)
theorem k_key {prog : Program} {w : World} {s : Shared} {fr : Option (List Env)} {gu : Option (List Code)} {Q : VP} {E : VP} (KX : (KG w.params).In s.heap) (hg : s.gens = #[])
 {lam lc p : Addr} {ldc : Option Addr} {doc pm lct : Value} {an : Option Addr} {lcd : Option Addr} {lcs : Array (Option Value)} {la0 : Value} {lr : List Value} {lt1 t u : Tok} {x : Str} {z : Int} {n : Nat}
 (hlam : s.heap.get? lam = some (zv8 w.params lc ldc doc pm lct an)) (hlc : s.heap.get? lc = some (xe7 lcd lcs la0 lr (qb3 w.params).qual lt1)) (hp : s.heap.get? p = some (qr8 x t z u n))
 (hQ : ∀ a h' tk t1 t2 k, (∀ b o, s.heap.get? b = some o -> h'.get? b = some o) -> s.heap.get? a = none -> h'.get? a = some (kTup (0 - z) t1 x t2 k) -> Q (.ref a) { s with heap := h', gens := #[], toks := tk }) :
 wpAny (model prog w) (AX fr gu) (call (.ref lam) [.ref p]) Q E s := by
 obtain ⟨hh, gg, dd, tt, os⟩ := s
 obtain rfl : gg = #[] := hg
 dsimp only at KX hlam hlc hp hQ
 have Z := k4_is w.params
 have d1 : (zv8 w.params lc ldc doc pm lct an).data = .func (kFd4 w.params lc doc pm lct an) := by kernel_rfl
 refine wpAny_call (kla_callFunE (s := ⟨hh, #[], dd, tt, os⟩) (fd := kFd4 w.params lc doc pm lct an) (body := (qb3 w.params).body) (show 900 < 1000 by decide) hlam d1 Z.co Z.gen rfl ⟨lc, _, ⟨la0 :: .str _ lt1 :: lr⟩, lt1, rfl, hlc, rfl, rfl⟩ ?_)
 rw [zw5]
 refine w2z (wpAny_newFunctionEnv (fun x hx z => ?_) (fun x hx => ?_) (fun h₁ hns hsb => ?_) Z.kd)
 . have := List.all_eq_true.mp Z.names x hx
   rw [z] at this
   exact j7q this
 . rw [List.mem_singleton.mp hx]
   exact Z.loc _ (.head _)
 . have hk : ∀ b o, hh.get? b = some o -> h₁.get? b = some o := fun b o e => hsb.extBut b o (Nat.ne_of_lt (Heap.lt_size e)) (w6z _ e)
   refine ⟨(zm5 KX).keeps hk, kla_codeExpr (jj8 (zw4 _) Z.kd (Z.loc "one" (.head _)) hns rfl (hk _ _ hp) fun tk t1 => hQ _ _ _ t1 t 0 (fun b o e => w6z _ (hk b o e)) ?_ (Heap.get?_push_size _ rfl))⟩
   induction q : hh.get? h₁.objs.size with
   | none => rfl
   | some o => exact absurd (Heap.lt_size (hk _ _ q)) (Nat.lt_irrefl _)
end
section
variable {prog : Program} {w : World} {A : Around} {s : Shared}
theorem jg1 {a b : Addr} {za zb : Int} {xa xb : Str} {t1 t2 u1 u2 : Tok} {na nb : Nat} {C : Bool -> Shared -> Prop} (ha : s.heap.get? a = some (kTup (0 - za) t1 xa u1 na)) (hb : s.heap.get? b = some (kTup (0 - zb) t2 xb u2 nb)) (hc : C (cmpR xa xb za zb) s) :
 wpAny (model prog w) A (keyLt' (tuples' true) (.ref a) (.ref b)) C (fun _ _ => False) s := by
 refine kat_lt (b := true) ha rfl hb rfl ?_
 show KatLex prog w A true _ C [(.int (0 - za) t1, .int (0 - zb) t2), (.str xa u1, .str xb u2)] 0 s
 refine kat_cons (wpAny_eqBool_int ?_)
 induction e : ((0 - za : Int) == 0 - zb) with
 | false =>
  have hne : ¬ za = zb := fun z => by rw [z] at e; simp at e
  refine kat_no ?_
  show wpAny _ _ (oneLt' true _ _) _ _ _
  refine oneLt_int ?_
  unfold cmpR at hc
  rw [if_neg hne] at hc
  have : decide ((0 - za : Int) < 0 - zb) = decide (zb < za) := by
   by_cases q : zb < za
   . rw [decide_eq_true q, decide_eq_true (by omega)]
   . rw [decide_eq_false q, decide_eq_false (by omega)]
  rw [this]
  exact hc
 | true =>
  have heq : za = zb := by have := eq_of_beq e; omega
  unfold cmpR at hc
  rw [if_pos heq] at hc
  refine kat_yes (kat_cons (wpAny_eqBool_str ?_))
  by_cases q : xa = xb
  . rw [decide_eq_true q]
    refine kat_yes (kat_nil ?_)
    subst q
    rw [decide_eq_false (List.lt_irrefl _)] at hc
    exact hc
  . rw [decide_eq_false q]
    refine kat_no ?_
    show wpAny _ _ (oneLt' false _ _) _ _ _
    exact kat_one _ _ (PyProof.Rows.lt_str hc)
theorem zj5 {ks : List Value} {C : SortKind -> Shared -> Prop} (hne : 0 < ks.length) (hk : ∀ k ∈ ks, ∃ a z t x u n, k = .ref a /\ s.heap.get? a = some (kTup z t x u n)) (hc : C (tuples' true) s) :
 wpAny (model prog w) A (keyKind' (List.toArray ks)) C (fun _ _ => False) s := by
 have fs : ∀ (ks : List Value), (∀ k ∈ ks, ∃ a z t x u n, k = .ref a /\ s.heap.get? a = some (kTup z t x u n)) -> ∃ fs : List Value, KatTups s.heap ks fs /\ fs.length = ks.length /\ ∀ f ∈ fs, ∃ z t, f = .int z t := by
  intro ks
  induction ks with
  | nil => exact fun _ => ⟨[], trivial, rfl, fun f hf => by cases hf⟩
  | cons k r ih =>
   intro h
   obtain ⟨fs, h1, h2, h3⟩ := ih fun k hk => h k (w9z _ hk)
   obtain ⟨a, z, t, x, u, n, rfl, ho⟩ := h k (.head _)
   exact ⟨.int z t :: fs, KatTups.cons ho rfl rfl rfl h1, by simp [h2], fun f hf => by
    rcases List.mem_cons.mp hf with rfl | hf
    . exact ⟨z, t, rfl⟩
    . exact h3 f hf⟩
 obtain ⟨fs, h1, h2, h3⟩ := fs ks hk
 refine kat_kind (T := .type "int") h1 (by exact Nat.lt_of_lt_of_eq (by assumption) (Eq.symm (by assumption))) (fun v hv => ?_) (by rfl) hc
 obtain ⟨z, t, rfl⟩ := h3 v hv
 exact Looks.now
end
noncomputable def qs5 (L : Addr) (h : Heap) (vs : List Value) (xs : List (Str × Int)) : Prop := ∀ (i : Nat) (v : Value), vs[i]? = some v -> ∃ (p : Addr) (x : Str) (z : Int) (t u : Tok) (n : Nat), v = Value.ref p /\ p ≠ L /\ xs[i]? = some (x, z) /\ h.get? p = some (qr8 x t z u n)
noncomputable def xp0 (xs : List (Str × Int)) (i j : Nat) : Bool := match xs[i]?, xs[j]? with
 | some a, some b => cmpR a.1 b.1 a.2 b.2
 | _, _ => false
theorem xs8 {xs : List (Str × Int)} {i j : Nat} {xa xb : Str} {za zb : Int} (h1 : xs[i]? = some (xa, za)) (h2 : xs[j]? = some (xb, zb)) : xp0 xs i j = cmpR xa xb za zb := by
 unfold xp0; rw [h1, h2]
noncomputable def Same (s s' : Shared) : Prop := s' = { s with heap := s'.heap, gens := #[], toks := s'.toks }
theorem Same.heap {s : Shared} (s' : Shared) (h' : Heap) (h : Same s s') : Same s { s' with heap := h' } := by
 unfold Same at h ⊢
 rw [h]
theorem Same.gens {s s' : Shared} (h : Same s s') : s'.gens = #[] := by rw [h]
theorem Same.next {s s' : Shared} (h : Same s s') (h' : Heap) (tk : Nat) : Same s { s' with heap := h', gens := #[], toks := tk } := by
 unfold Same at h ⊢
 rw [h]
theorem qh3.get {L : Addr} {h h' : Heap} (H : qh3 h' (qb0 L h)) {a : Addr} {o : Obj} (hn : a ≠ L) (e : h.get? a = some o) : h'.get? a = some o := H (a, o) (ql6.mpr ⟨hn, e⟩)
section
variable {w : World} {A : Around} {E : VP}
theorem zk0 {l L lam lc : Addr} {m : Str -> Option Value} {vs : List Value} {xs : List (Str × Int)} {Q : VP} {s : Shared} {ldc : Option Addr} {doc pm lct : Value} {an : Option Addr} {lcd : Option Addr} {lcs : Array (Option Value)} {la0 : Value} {lr : List Value} {lt1 : Tok}
 (hd : A.depth <= 900) (hu : A.units <= 8990) (hh : A.handled = none) (KX : (KG w.params).In s.heap) (hKL : ∀ a o, (KG w.params).lookup a = some o -> a ≠ L) (hg : s.gens = #[])
 (hL : s.heap.Ns L m) (hl : s.heap.IsList l vs.toArray) (h2 : 2 <= vs.length) (h64 : vs.length < 64) (hp : qs5 L s.heap vs xs)
 (n1 : lam ≠ L) (n2 : lc ≠ L) (hlam : s.heap.get? lam = some (zv8 w.params lc ldc doc pm lct an)) (hlc : s.heap.get? lc = some (xe7 lcd lcs la0 lr (qb3 w.params).qual lt1))
 (hQ : ∀ D c s', s.heap.get? D = none -> s'.heap.get? D = some (listOf (List.toArray ((runR (xp0 xs) (kas_sort vs.length)).toList.map fun i => vs.getD i Value.none)) c) -> qh3 s'.heap (qb0 L s.heap) -> s'.heap.Ns L m -> Same s s' -> Q (.ref D) s') :
 wpAny (model PySem.Challenge.rw_ik0059_01.prog w) A (call (.builtin "sorted") [.ref l] [(Str.ofString "key", .ref lam)]) Q E s := by
 refine xa5 (κ := tuples' true) (R := xp0 xs) (KP := fun k i X => ∃ (a : Addr) (t u : Tok) (n : Nat) (x : Str) (z : Int), k = Value.ref a /\ xs[i]? = some (x, z) /\ X = [(a, kTup (0 - z) t x u n)]) (Z := Same s) hL hl h2 h64 (fun s' h' z => Same.heap s' h' z) (by unfold Same; rw [<- hg]) ?_ ?_ ?_ hQ
 . intro i v hv s' hz H hn C hC
   obtain ⟨p, x, z, t, u, n, rfl, hpL, hx, ho⟩ := hp i v hv
   refine xi6 (by show A.depth <= 900; exact hd) (by show A.units + 1 + 1 <= 9000; exact Nat.lt_of_le_of_lt (Nat.add_le_add_right (by assumption) _) (by decide)) hh ?_
   refine k_key (fun a o e => H.get (hKL a o e) (KX a o e)) hz.gens (H.get n1 hlam) (H.get n2 hlc) (H.get hpL ho) fun a h' tk t1 t2 k hgr han ha => ?_
   refine hC (.ref a) [(a, kTup (0 - z) t1 x t2 k)] _ ⟨a, t1, t2, k, x, z, rfl, hx, rfl⟩ (fun q hq => ?_) hgr (hz.next h' tk)
   rw [List.mem_singleton.mp hq]
   exact ⟨ha, han⟩
 . intro ks X s' hlen hk hX hz C hC
   refine zj5 (by omega) (fun k hk' => ?_) hC
   obtain ⟨i, hi⟩ := List.getElem?_of_mem hk'
   obtain ⟨Y, ⟨a, t, u, n, x, z, rfl, _, rfl⟩, y2⟩ := hk.get hi
   exact ⟨a, _, t, x, u, n, rfl, hX _ (y2 _ (.head _))⟩
 . intro i j k k' X Y s' hi hj hX hY hHX hHY H hn hz C hC
   obtain ⟨a, t, u, n, x, z, rfl, hx, rfl⟩ := hX
   obtain ⟨a', t', u', n', x', z', rfl, hx', rfl⟩ := hY
   refine jg1 (hHX _ (.head _)) (hHY _ (.head _)) ?_
   rw [<- xs8 hx hx']
   exact hC s' (fun _ _ e => e) hz
end
theorem ze3 : typeLookup (.type "object") "__lt__" = pure (some (.builtin "object.__lt__")) := by rw [typeLookup_type, builtinLookup_eq_fast]; kernel_rfl
section
variable {w : World} {A : Around} {E : VP}
theorem k_own {h : Heap} {cell lam C lt ka da : Addr} {x : Value} {ko : Prs} (hF : KSet w.params cell lam C lt ko) (hA : ∀ p ∈ ko, h.get? p.1 = some p.2) (hka : h.get? ka = some (qu1 C da x)) : h.OwnSpecial ka C lt "object" "__lt__" := by
 obtain ⟨N, bt, md, ci, ltc, fa, f, u1, u2, t13, q1, q2, v0, v1, v2, v10, ctp, a1, a2, d1, d2, s1, s2, r1, r2, rfl, hK⟩ := hF
 refine ⟨_, _, "K", "cmp_to_key.<locals>.K", N, [.type "object"], [.type "object"], false, ["obj"], [], false, none, none, some (.ref bt), none, some (.str "K" u1), some (.str "cmp_to_key.<locals>.K" u2), some (.bool false), "object.__new__", nsFind _, some (.builtin "object.__lt__"), hka, rfl, hA (C, _) (by rw [hK]; exact .head _), ⟨_, _, _, hA (N, _) (by rw [hK]; exact .tail _ (.head _)), rfl, fun e he => xv3 (List.mem_toArray.mp he), fun _ => rfl⟩, ?_, hA (fa 1, _) (by rw [hK]; exact .tail _ (.tail _ (.tail _ (.tail _ (.tail _ (.head _)))))), rfl, F.cmp_object.mro, ze3⟩
 kernel_rfl
theorem zw9 {s : Shared} {lam lc cell C lt ka kb da db pa pb : Addr} {ko : Prs} {xa xb : Str} {za zb : Int} {ta tbb ua ub : Tok} {na nb : Nat} {Q : Bool -> Shared -> Prop} (hd : A.depth <= 900) (hu : A.units <= 9000) (hh : A.handled = none) (KX : (KG w.params).In s.heap) (hg : s.gens = #[])
 (hF : KSet w.params cell lam C lt ko) (hA : ∀ p ∈ ko, s.heap.get? p.1 = some p.2) (hlam : LamAt w.params s.heap lam lc)
 (hka : s.heap.get? ka = some (qu1 C da (.ref pa))) (hkb : s.heap.get? kb = some (qu1 C db (.ref pb))) (hda : ∃ o, s.heap.get? da = some o) (hdb : ∃ o, s.heap.get? db = some o) (hpa : s.heap.get? pa = some (qr8 xa ta za ua na)) (hpb : s.heap.get? pb = some (qr8 xb tbb zb ub nb))
 (hQ : ∀ h' tk, (∀ b o, s.heap.get? b = some o -> h'.get? b = some o) -> Q (cmpR xa xb za zb) { s with heap := h', gens := #[], toks := tk }) :
 wpAny (model PySem.Challenge.rw_ik0059_01.prog w) A (keyLt' oneType' (.ref ka) (.ref kb)) Q (fun _ _ => False) s := by
 rw [keyLt'_oneType, oneLt'_eq]
 simp only [if_true]
 refine w0z (wpAny_cRoomFor (by have : cLine = 9900 := rfl; exact Nat.lt_of_le_of_lt (by assumption) (by decide)) ?_)
 refine w0z (wpAny_callSpecialIfBound?_own (k_own (w := w) hF hA hka) ?_)
 refine xi6 hd hu hh (k_lt KX hg hF hA hlam hka hkb hda hdb hpa hpb fun r h' tk hgr hr => ?_)
 exact wpAny_truthy_bool (hr ▸ hQ h' tk hgr)
theorem zf6 {s : Shared} {C : Addr} {ks : List Value} {Q : SortKind -> Shared -> Prop} {prog : Program} (h2 : 2 <= ks.length) (hk : ∀ k ∈ ks, ∃ (a d : Addr) (x : Value), k = Value.ref a /\ s.heap.get? a = some (qu1 C d x)) (hc : Q oneType' s) :
 wpAny (model prog w) A (keyKind' (List.toArray ks)) Q (fun _ _ => False) s := by
 refine kas_kind (T := .ref C) h2 (fun v hv => ?_) (by rfl) (by simp) hc
 obtain ⟨a, d, x, rfl, ho⟩ := hk v hv
 exact (Looks.ld ho).andThen .now
theorem zb9 {l L : Addr} {m : Str -> Option Value} {vs : List Value} {xs : List (Str × Int)} {Q : VP} {s : Shared} {lam lc cell C lt : Addr} {ko : Prs}
 (hd : A.depth <= 900) (hu : A.units <= 8990) (hh : A.handled = none) (KX : (KG w.params).In s.heap) (hKL : ∀ a o, (KG w.params).lookup a = some o -> a ≠ L) (hg : s.gens = #[])
 (hL : s.heap.Ns L m) (hl : s.heap.IsList l vs.toArray) (h2 : 2 <= vs.length) (h64 : vs.length < 64) (hp : qs5 L s.heap vs xs)
 (hF : KSet w.params cell lam C lt ko) (hA : ∀ p ∈ ko, s.heap.get? p.1 = some p.2) (hlam : LamAt w.params s.heap lam lc) (nL : ∀ p ∈ ko, p.1 ≠ L) (nlam : lam ≠ L) (nlc : lc ≠ L)
 (hQ : ∀ D c s', s.heap.get? D = none -> s'.heap.get? D = some (listOf (List.toArray ((runR (xp0 xs) (kas_sort vs.length)).toList.map fun i => vs.getD i Value.none)) c) -> qh3 s'.heap (qb0 L s.heap) -> s'.heap.Ns L m -> Same s s' -> Q (.ref D) s') :
 wpAny (model PySem.Challenge.rw_ik0059_01.prog w) A (call (.builtin "sorted") [.ref l] [(Str.ofString "key", .ref C)]) Q E s := by
 have up : ∀ {h' : Heap}, (∀ {b o}, b ≠ L -> s.heap.get? b = some o -> h'.get? b = some o) -> (∀ p ∈ ko, h'.get? p.1 = some p.2) /\ LamAt w.params h' lam lc := fun {h'} k => ⟨fun p hp => k (nL p hp) (hA p hp), by
  obtain ⟨a, b, c, d, e, f, g, i, j, l, x1, x2⟩ := hlam
  exact ⟨a, b, c, d, e, f, g, i, j, l, k nlam x1, k nlc x2⟩⟩
 refine xa5 (κ := oneType') (R := xp0 xs) (KP := fun k j X => ∃ (a d p : Addr) (x : Str) (z : Int), k = Value.ref a /\ vs[j]? = some (.ref p) /\ xs[j]? = some (x, z) /\ X = [(a, qu1 C d (.ref p)), (d, emptyDict)]) (Z := Same s) hL hl h2 h64 (fun s' h' z => Same.heap s' h' z) (by unfold Same; rw [<- hg]) ?_ ?_ ?_ hQ
 . intro j v hv s' hz H hn Q' hQ'
   obtain ⟨p, x, z, t, u, n, rfl, hpL, hx, ho⟩ := hp j v hv
   refine xi6 (by show A.depth <= 900; exact hd) (by show A.units + 1 + 1 <= 9000; exact Nat.lt_of_le_of_lt (Nat.add_le_add_right (by assumption) _) (by decide)) hh ?_
   refine jj5 (fun a o e => H.get (hKL a o e) (KX a o e)) hz.gens hF (up H.get).1 fun a h' tk hgr d han ha hdn hd' => ?_
   refine hQ' (.ref a) [(a, qu1 C d (.ref p)), (d, emptyDict)] _ ⟨a, d, p, x, z, rfl, hv, hx, rfl⟩ (fun q hq => ?_) hgr (hz.next h' tk)
   simp only [List.mem_cons, List.not_mem_nil, or_false] at hq
   rcases hq with rfl | rfl
   . exact ⟨ha, han⟩
   . exact ⟨hd', hdn⟩
 . intro ks X s' hlen hk hX hz Q' hQ'
   refine zf6 (C := C) (by exact Nat.lt_of_lt_of_eq (by assumption) (Eq.symm (by assumption))) (fun k hk' => ?_) hQ'
   obtain ⟨j, hj⟩ := List.getElem?_of_mem hk'
   obtain ⟨Y, ⟨a, d, p, x, z, rfl, _, _, rfl⟩, y2⟩ := hk.get hj
   exact ⟨a, d, _, rfl, hX _ (y2 _ (.head _))⟩
 . intro j j' k k' X Y s' hj hj' hX hY hHX hHY H hn hz Q' hQ'
   obtain ⟨a, d, p, x, z, rfl, hv, hx, rfl⟩ := hX
   obtain ⟨a', d', p', x', z', rfl, hv', hx', rfl⟩ := hY
   obtain ⟨q, y, yz, t, u, n, e, hpL, hy, ho⟩ := hp j _ hv
   obtain rfl := Value.ref.inj e
   rw [hx] at hy; cases hy
   obtain ⟨q', y', yz', t', u', n', e, hpL', hy', ho'⟩ := hp j' _ hv'
   obtain rfl := Value.ref.inj e
   rw [hx'] at hy'; cases hy'
   refine zw9 (by show A.depth <= 900; exact hd) (by show A.units + 1 + 1 <= 9000; exact Nat.lt_of_le_of_lt (Nat.add_le_add_right (by assumption) _) (by decide)) hh (fun a o e => H.get (hKL a o e) (KX a o e)) hz.gens hF (up H.get).1 (up H.get).2 (hHX _ (.head _)) (hHY _ (.head _)) ⟨_, hHX _ (.tail _ (.head _))⟩ ⟨_, hHY _ (.tail _ (.head _))⟩ (H.get hpL ho) (H.get hpL' ho') fun h' tk hgr => ?_
   rw [<- xs8 hx hx']
   exact hQ' _ hgr (hz.next h' tk)
end
theorem xs6 {prog : Program} {w : World} {s : Shared} {fr : Option (List Env)} {gu : Option (List Code)} {Q : VP} {E : VP} {l q : Addr} {n : Nat} (hg : s.gens = #[]) (hl : s.heap.get? l = some ⟨.type "list", none, .seq #[] n, #[]⟩)
 (hQ : ∀ D h' tk k, (∀ b o, s.heap.get? b = some o -> h'.get? b = some o) -> s.heap.get? D = none -> h'.get? D = some ⟨.type "list", none, .seq #[] k, #[]⟩ -> Q (.ref D) { s with heap := h', gens := #[], toks := tk }) :
 wpAny (model prog w) (AX fr gu) (call (.builtin "sorted") [.ref l] [(Str.ofString "key", .ref q)]) Q E s := by
 obtain ⟨h, g, d, tk, os⟩ := s
 obtain rfl : g = #[] := hg
 refine xo8 [(l, ⟨.type "list", none, .seq #[] n, #[]⟩)] [] 4 2 1 2515180062190372710567649281 16 (fun as => .ref (as.getD 1 0)) (fun as => [(as.getD 3 0, ⟨.type "list", none, .seq #[] 0, #[]⟩), (as.getD 2 0, ⟨.type "tuple", none, .seq #[] 0, #[]⟩), (as.getD 1 0, ⟨.type "list", none, .seq #[] 0, #[]⟩), (as.getD 0 0, ⟨.type "list", none, .seq #[] 0, #[]⟩)]) tk (fun p hp => by cases hp with | head => exact hl | tail _ z => cases z) (PySem.W.X.Mem.start h) (by kernel_rfl) fun a b c e h' D => ?_
 have z := D.nw (b, ⟨.type "list", none, .seq #[] 0, #[]⟩) (.tail _ (.tail _ (.head _)))
 exact hQ b h' tk 0 (qa5 D) z.2 z.1
section
open PySem PySem.Spec PySem.Calls PyProof.Rows PySem.W PySem.SeqAt
noncomputable def pdOf (a : Str × Int) : PyData := .list [.str a.1, .int a.2]
noncomputable def xm9 (h : Heap) : List Value -> List (Str × Int) -> Prop
 | [], [] => True
 | v :: vs, a :: xs => (∃ (p : Addr) (t u : Tok) (n : Nat), v = Value.ref p /\ h.get? p = some (qr8 a.1 t a.2 u n)) /\ xm9 h vs xs
 | _, _ => False
theorem qn4 {h : Heap} : ∀ {vs : List Value} {xs : List (Str × Int)}, xm9 h vs xs -> ∃ as, ReadsAll h vs (xs.map pdOf) as
 | [], [], _ => ⟨_, ReadsAll.nil⟩
 | [], _ :: _, h => h.elim
 | _ :: _, [], h => h.elim
 | v :: vs, a :: xs, ⟨⟨p, t, u, n, e, ho⟩, r⟩ => by
  obtain ⟨as, h2⟩ := qn4 r
  subst e
  exact ⟨_, ReadsAll.cons (Reads.list ho rfl rfl (by
   show ReadsAll h [.str a.1 t, .int a.2 u] _ _
   exact ReadsAll.cons (Reads.str _ t) (ReadsAll.cons (Reads.int _ u) ReadsAll.nil))) h2⟩
theorem xk2 : ∀ {xs : List (Str × Int)}, (∀ a ∈ xs, (PyData.str a.1).canLay0 = true) -> PyData.canLayAll0 (xs.map pdOf) = true
 | [], _ => rfl
 | a :: xs, h => by
  rw [List.map_cons, PyData.canLayAll0, xk2 fun b hb => h b (w9z _ hb)]
  have := h a (.head _)
  simp only [pdOf, PyData.canLay0, PyData.canLayAll0, Bool.and_true] at this ⊢
  exact this
theorem xc0 : ∀ {xs : List (Str × Int)}, PyData.depthAll (xs.map pdOf) <= 3
 | [] => by rw [List.map_nil, PyData.depthAll]; exact Nat.zero_le _
 | a :: xs => by
  rw [List.map_cons, PyData.depthAll]
  refine Nat.max_le.mpr ⟨?_, xc0⟩
  simp [pdOf, PyData.depth, PyData.depthAll]
theorem xl4 : ∀ {xs : List (Str × Int)}, PyData.eqvAll (xs.map pdOf) (xs.map pdOf) = true
 | [] => rfl
 | a :: xs => by
  rw [List.map_cons, PyData.eqvAll, xl4]
  simp [pdOf, PyData.eqv, PyData.eqvAll]
theorem zo0 {prog : Program} {w : World} {A : Around} {E : VP} {s : Shared} {a b : Addr} {vs ws : List Value} {c d : Nat} {xs : List (Str × Int)} {Q : VP} (hu : A.units <= 9000)
 (ha : s.heap.get? a = some (listOf (List.toArray vs) c)) (hb : s.heap.get? b = some (listOf (List.toArray ws) d)) (h1 : xm9 s.heap vs xs) (h2 : xm9 s.heap ws xs) (hf : ∀ a ∈ xs, (PyData.str a.1).canLay0 = true)
 (hQ : Q (.bool true) s) : wpAny (model prog w) A (compareOp .Eq (.ref a) (.ref b)) Q E s := by
 obtain ⟨as, r1⟩ := qn4 h1
 obtain ⟨bs, r2⟩ := qn4 h2
 have sh : shaped (.list (xs.map pdOf)) = true := by
  unfold shaped
  rw [show (PyData.list (xs.map pdOf)).canLay0 = PyData.canLayAll0 (xs.map pdOf) from rfl, xk2 hf, decide_eq_true (by rw [PyData.depth]; have := xc0 (xs := xs); exact Nat.lt_of_le_of_lt (by assumption) (by decide))]
  rfl
 refine compareEq_shaped (Reads.list ha rfl rfl (by simpa using r1)) (Reads.list hb rfl rfl (by simpa using r2)) sh sh (by have : cLine = 9900 := rfl; exact Nat.lt_of_le_of_lt (Nat.add_le_add_right (by assumption) _) (by decide)) ?_
 rw [show PyData.eqv (.list (xs.map pdOf)) (.list (xs.map pdOf)) = true by rw [PyData.eqv]; exact xl4]
 exact hQ
end
noncomputable def zc9 : Str × Int := (⟨#[]⟩, 0)
theorem qr3 {L : Addr} {h h' : Heap} {vs : List Value} {xs : List (Str × Int)} (hp : qs5 L h vs xs) (hk : qh3 h' (qb0 L h)) : ∀ (order : List Nat), (∀ i ∈ order, i < vs.length) -> xm9 h' (order.map fun i => vs.getD i Value.none) (order.map fun i => xs.getD i zc9)
 | [], _ => trivial
 | i :: r, ho => by
  refine ⟨?_, qr3 hp hk r fun j hj => ho j (w9z _ hj)⟩
  have hi := ho i (.head _)
  obtain ⟨p, x, z, t, u, n, e, hpL, hx, hpo⟩ := hp i (vs[i]) (List.getElem?_eq_getElem hi)
  refine ⟨p, t, u, n, ?_, ?_⟩
  . show vs.getD i Value.none = _
    rw [List.getD_eq_getElem?_getD, List.getElem?_eq_getElem hi]; exact e
  . show h'.get? p = some (qr8 (xs.getD i zc9).1 t (xs.getD i zc9).2 u n)
    rw [List.getD_eq_getElem?_getD, hx]
    exact hk.get hpL hpo
theorem zk6 {R : Nat -> Nat -> Bool} {n : Nat} (hn : 0 < n) : ∀ i ∈ (runR R (kas_sort n)).toList, i < n := fun i hi => (Asks.run (xm3 hn) : IsPm n (runR R (kas_sort n))).mem (Array.mem_toList_iff.mp hi)
theorem eqM_H {b : Bool} {x y : AV} {st st' st₁ : St} {r : AV} (h : eqM b x y st = .ok r st₁) (e : st'.H = st.H) : eqM b x y st' = .ok r st' := by
 unfold eqM at h ⊢
 rw [e]
 revert h
 induction e1 : deep st.H.t 8 x with
 | none => intro h; exact j1q h
 | some d =>
  induction e2 : deep st.H.t 8 y with
  | none => intro h; exact j1q h
  | some d' =>
   dsimp only
   induction e3 : AD.eqb d d' with
   | none => intro h; exact j1q h
   | some q => intro h; obtain ⟨rfl, rfl⟩ := z7q h; rfl
set_option tactic.hygienic true in
theorem zr7 {k ti line col : Nat} {st st' st₁ : St} {r : AV} (h : lamM k ti line col [] st = .ok r st₁) (e : st'.H = st.H) : lamM k ti line col [] st' = .ok r { st' with H := st₁.H } := by
 unfold lamM at h ⊢
 rw [e]
 revert h
 induction e1 : st.H.t.get ti with
 | none => intro h; exact j1q h
 | some ao =>
  induction ao <;> try (intro h; exact j1q h)
  rename_i ps
  dsimp only
  have c1 : qo8 st.cel [] = some [] := rfl
  have c2 : qo8 st'.cel [] = some [] := rfl
  rw [c1, c2]
  dsimp only
  induction e2 : xl1 ps line col with
  | some c =>
   dsimp only
   induction e3 : Nat.blt st.H.n z5q with
   | true => intro h; obtain ⟨rfl, rfl⟩ := z7q h; rfl
   | false => intro h; exact j1q h
  | none =>
   dsimp only
   induction e3 : Nat.blt (st.H.n + 1) z5q && Nat.blt ti z5q with
   | true => intro h; obtain ⟨rfl, rfl⟩ := z7q h; rfl
   | false => intro h; exact j1q h
set_option tactic.hygienic true in
theorem zd6 {st st' : St} {y : AF} (h : qh6 st = .ok y st') : y = .next /\ st' = st /\ ∃ c i j k xs ys l st₁, st.loc = [c, some (.ref i), some (.ref j), k] /\ st.H.t.get i = some (.list xs) /\ st.H.t.get j = some (.list ys) /\ w4q st.H.t xs = some l /\ w4q st.H.t ys = some l /\ xs.length <= 60 /\ (2 <= xs.length \/ xs.length = 0) /\ eqM false (.ref j) (.ref i) st = .ok (.bool true) st₁ := by
 unfold qh6 at h
 generalize e0 : st.loc = L at h
 rcases L with _ | ⟨c, _ | ⟨o1, L⟩⟩ <;> try exact j1q h
 rcases o1 with _ | a <;> try exact j1q h
 cases a <;> try exact j1q h
 rename_i i
 rcases L with _ | ⟨o2, L⟩ <;> try exact j1q h
 rcases o2 with _ | a <;> try exact j1q h
 cases a <;> try exact j1q h
 rename_i j
 rcases L with _ | ⟨k, _ | ⟨_, _⟩⟩ <;> try exact j1q h
 dsimp only at h
 generalize e1 : st.H.t.get i = o1 at h
 rcases o1 with _ | o1 <;> try exact j1q h
 cases o1 <;> try exact j1q h
 rename_i xs
 dsimp only at h
 generalize e2 : st.H.t.get j = o2 at h
 rcases o2 with _ | o2 <;> try exact j1q h
 cases o2 <;> try exact j1q h
 rename_i ys
 dsimp only at h
 generalize e3 : w4q st.H.t xs = p3 at h
 generalize e4 : w4q st.H.t ys = p4 at h
 rcases p3 with _ | l <;> try exact j1q h
 rcases p4 with _ | l' <;> try exact j1q h
 dsimp only at h
 generalize e5 : (decide (l = l') && Nat.ble xs.length 60 && (Nat.ble 2 xs.length || Nat.beq xs.length 0)) = b5 at h
 cases b5
 . exact j1q h
 dsimp only at h
 generalize e6 : eqM false (.ref j) (.ref i) st = r6 at h
 rcases r6 with ⟨v, st₁⟩ | _ | _ <;> try exact j1q h
 cases v <;> try exact j1q h
 rename_i q
 cases q
 . exact j1q h
 obtain ⟨rfl, rfl⟩ := z7q h
 obtain ⟨q1, q3⟩ := Bool.and_eq_true_iff.mp e5
 obtain ⟨q1, q2⟩ := Bool.and_eq_true_iff.mp q1
 obtain rfl := of_decide_eq_true q1
 exact ⟨rfl, rfl, c, i, j, k, xs, ys, l, st₁, rfl, e1, e2, e3, e4, w5z q2, (Bool.or_eq_true_iff.mp q3).elim (fun q => .inl (w5z q)) fun q => .inr (Nat.eq_of_beq_eq_true q), e6⟩
theorem zd5 {st st' : St} (h : qh6 st = .ok .next st') : st' = st /\ ∃ c i j k xs ys l st₁, st.loc = [c, some (.ref i), some (.ref j), k] /\ st.H.t.get i = some (.list xs) /\ st.H.t.get j = some (.list ys) /\ w4q st.H.t xs = some l /\ w4q st.H.t ys = some l /\ xs.length <= 60 /\ (2 <= xs.length \/ xs.length = 0) /\ eqM false (.ref j) (.ref i) st = .ok (.bool true) st₁ := (zd6 h).2
noncomputable def xj4 (t : Tr) (l : List AV) (o : Option AO) : Option (List (List Nat × Int × Int × Int)) := match o with
 | some (.list [.str s, .int (.lin c a b)]) => match qe0 s with
  | true => match w4q t l with
   | some r => some ((s, c, a, b) :: r)
   | none => none
  | false => none
 | _ => none
theorem zc8 {t : Tr} {l : List AV} {s : List Nat} {c a b : Int} {r : List (List Nat × Int × Int × Int)} (h1 : qe0 s = true) (h2 : w4q t l = some r) : xj4 t l (some (.list [.str s, .int (.lin c a b)])) = some ((s, c, a, b) :: r) := by
 unfold xj4
 dsimp only
 rw [h1, h2]
set_option tactic.hygienic true in
theorem xb0 {t : Tr} {x : AV} {xs : List AV} {l : List (List Nat × Int × Int × Int)} (h : w4q t (x :: xs) = some l) : ∃ i s c a b r, x = .ref i /\ t.get i = some (.list [.str s, .int (.lin c a b)]) /\ qe0 s = true /\ w4q t xs = some r /\ l = (s, c, a, b) :: r := by
 cases x <;> try exact q6q h
 rename_i i
 replace h : xj4 t xs (t.get i) = some l := h
 unfold xj4 at h
 generalize e : t.get i = o at h
 rcases o with _ | o <;> try exact q6q h
 cases o <;> try exact q6q h
 rename_i ys
 rcases ys with _ | ⟨u, ys⟩ <;> try exact q6q h
 cases u <;> try exact q6q h
 rename_i s
 rcases ys with _ | ⟨v, ys⟩ <;> try exact q6q h
 cases v <;> try exact q6q h
 rename_i m
 cases m <;> try exact q6q h
 rename_i c a b
 rcases ys with _ | ⟨_, _⟩ <;> try exact q6q h
 dsimp only at h
 generalize e1 : qe0 s = q at h
 cases q
 . exact q6q h
 dsimp only at h
 generalize e2 : w4q t xs = p at h
 rcases p with _ | r
 . exact q6q h
 obtain rfl := w4z h
 exact ⟨i, s, c, a, b, r, rfl, e, e1, rfl, rfl⟩
noncomputable def xsOf (ν : Vl) (l : List (List Nat × Int × Int × Int)) : List (Str × Int) := l.map fun p => (⟨p.1.toArray⟩, (SI.lin p.2.1 p.2.2.1 p.2.2.2).val ν)
section
variable {g : Gl} {cx : Cx} {V : List Addr} {st : St} {s : Shared}
set_option tactic.hygienic true in
theorem qo9 (I : Inv g cx V st s) : ∀ {xs : List AV} {l : List (List Nat × Int × Int × Int)} {vs : List Value}, w4q st.H.t xs = some l -> reps g.ν V xs vs -> qs5 cx.env.locals s.heap vs (xsOf g.ν l) /\ (∀ a ∈ xsOf g.ν l, (PyData.str a.1).canLay0 = true) /\ vs.length = l.length := by
 intro xs
 induction xs with
 | nil =>
  intro l vs h hr
  induction vs with
  | cons => exact hr.elim
  | nil =>
   obtain rfl := w4z h
   exact ⟨fun i v e => by simp at e, fun a m => by simp [xsOf] at m, rfl⟩
 | cons x xs ih =>
  intro l vs h hr
  cases vs with
  | nil => exact hr.elim
  | cons v vs =>
   obtain ⟨i, nm, c, a, b, r', rfl, eo, e1, e2, rfl⟩ := xb0 h
   obtain ⟨h1, h2, h3⟩ := ih e2 hr.2
   obtain ⟨p, hp, hv⟩ := hr.1
   obtain ⟨p', o, q1, q2, ws, n, q3, q4⟩ := I.heap i _ eo
   obtain rfl := w4z (hp.symm.trans q1)
   subst q4
   obtain ⟨w1, w2, rfl, ⟨t, rfl⟩, u, rfl⟩ := zk2 q3
   refine ⟨fun j w e => ?_, ?_, by rw [List.length_cons, h3]; rfl⟩
   . induction j with
     | zero =>
      obtain rfl := w4z e
      exact ⟨p, _, _, t, u, n, hv, (I.own p (w7z hp)).2.1, rfl, q2⟩
     | succ j =>
      obtain ⟨p1, x1, z1, t1, u1, n1, k1, k2, k3, k4⟩ := h1 j w (by simpa using e)
      exact ⟨p1, x1, z1, t1, u1, n1, k1, k2, by simpa [xsOf] using k3, k4⟩
   . intro a m
     rcases List.mem_cons.mp m with rfl | m
     . rw [PyData.canLay0]; exact qr0 nm e1
     . exact h2 a m
noncomputable def ordR (xs : List (Str × Int)) (n : Nat) : List Nat := if n = 0 then [] else (runR (xp0 xs) (kas_sort n)).toList
theorem xp3 {xs : List (Str × Int)} {n : Nat} : ∀ i ∈ ordR xs n, i < n := fun i hi => by
 unfold ordR at hi
 split at hi
 . cases hi
 . exact zk6 (by exact Nat.pos_of_ne_zero (by assumption)) i hi
theorem Inv.sorted (I : Inv g cx V st s) {s' : Shared} (h1 : ∀ b o, s.heap.get? b = some o -> b ≠ cx.env.locals -> s'.heap.get? b = some o) (h2 : ∃ m, s'.heap.Ns cx.env.locals m /\ ∀ (i : Nat) x, cx.nm[i]? = some x -> w5q g.ν V (st.loc[i]?).join (m x)) (h3 : Same s s') : Inv g cx V st s' /\ Ext cx V s.heap V s'.heap := by
 have e : s' = { s with heap := s'.heap, toks := s'.toks } := by
  have hg := I.gens
  obtain ⟨a, b, c, d, f⟩ := s
  dsimp only at hg
  subst hg
  exact h3
 have z := I.move (st' := st) (h' := s'.heap) (tk := s'.toks) (Pre.refl V) (fun _ h1 h2 => absurd h1 h2) I.nodup (fun a ha => (I.live a ha).imp fun o e => h1 a o e (I.own a ha).2.1) (fun b o e _ nl => h1 b o e nl) (fun _ _ e => I.heap_keep (Pre.refl V) (fun a ha o q => h1 a o q (I.own a ha).2.1) e) I.size h2 rfl
 rw [<- e] at z
 exact z
theorem KL (S : Sit g) (I : Inv g cx V st s) : ∀ a o, (KG g.w.params).lookup a = some o -> a ≠ cx.env.locals := fun a o e z => by
 have := S.X a o e
 rw [z, I.lnew] at this; exact q6q this
variable {A : Around} {E : VP}
theorem zd0 {α : Type} {l : List α} (h : l.length = 0) : l = [] := List.eq_nil_of_length_eq_zero h
theorem xx0 (S : Sit g) (hd : A.depth <= 900) (hu : A.units <= 8990) (hh : A.handled = none) (I : Inv g cx V st s) {l : Addr} {vs : List Value} {n : Nat} {xs : List (Str × Int)} (hl : s.heap.get? l = some (listOf vs.toArray n)) (hn : 2 <= vs.length \/ vs.length = 0) (h64 : vs.length < 64)
 (hp : qs5 cx.env.locals s.heap vs xs) {cell lam C lt lc : Addr} {F : List (Addr × Obj)} (hF : KSet g.w.params cell lam C lt F) (hS : xm5 cx V s.heap F) (mlam : lam ∈ V) (mlc : lc ∈ V)
 (hlam : ∃ doc pm lct an, s.heap.get? lam = some ⟨.type "function", none, .func ⟨(qb4 g.w.params).name, (qb4 g.w.params).qual, (qb4 g.w.params).params, .expr (qb4 g.w.params).body, (qb4 g.w.params).scope, 3, [], .none, .none, doc, pm, an, .ref lc, lct, 0⟩, #[]⟩) (hlc : ∃ cd sl a0 r t, s.heap.get? lc = some (xe7 cd sl a0 r (qb4 g.w.params).qual t)) {Q : VP}
 (hQ : ∀ D c s', Inv g cx V st s' -> Ext cx V s.heap V s'.heap -> s.heap.get? D = none -> s'.heap.get? D = some (listOf (List.toArray ((ordR xs vs.length).map fun i => vs.getD i Value.none)) c) -> (∀ b o, s.heap.get? b = some o -> b ≠ cx.env.locals -> s'.heap.get? b = some o) -> Q (.ref D) s') :
 wpAny (model PySem.Challenge.rw_ik0059_01.prog g.w) A (call (.builtin "sorted") [.ref l] [(Str.ofString "key", .ref C)]) Q E s := by
 rcases hn with h2 | h0
 . obtain ⟨doc, pm, lct, an, hlam⟩ := hlam
   obtain ⟨cd, sl, a0, r, t, hlc⟩ := hlc
   obtain ⟨m, hm, hr⟩ := I.loc
   refine zb9 (L := cx.env.locals) (m := m) hd hu hh (fun a o e => I.base a o (S.X a o e)) (KL S I) I.gens hm ⟨_, hl, rfl, _, rfl⟩ h2 h64 hp hF (fun p hp => (hS p hp).2) ⟨_, _, _, _, _, _, _, _, _, _, hlam, hlc⟩ (fun p hp => (hS p hp).1.2.1) (I.own _ mlam).2.1 (I.own _ mlc).2.1 (fun D c s' e1 e2 e3 e4 e5 => ?_)
   . have kk : ∀ b o, s.heap.get? b = some o -> b ≠ cx.env.locals -> s'.heap.get? b = some o := fun b o e nl => e3.get nl e
     obtain ⟨J, X⟩ := I.sorted kk ⟨m, e4, hr⟩ e5
     refine hQ D c s' J X e1 ?_ kk
     rw [e2, ordR, if_neg (by omega)]
 . obtain rfl := zd0 h0
   refine xi6 hd (by exact Nat.le_trans (by assumption) (by decide)) hh (xs6 I.gens hl fun D h' tk k e1 e2 e3 => ?_)
   obtain ⟨J, X⟩ := I.sorted (s' := { s with heap := h', gens := #[], toks := tk }) (fun b o e _ => e1 b o e) (I.loc_keep (Pre.refl V) fun o e => e1 _ o e) rfl
   exact hQ D k _ J X e2 (by rw [show ordR xs ([] : List Value).length = [] from if_pos rfl]; exact e3) (fun b o e _ => e1 b o e)
theorem xo5 (S : Sit g) (hd : A.depth <= 900) (hu : A.units <= 8990) (hh : A.handled = none) (I : Inv g cx V st s) {l : Addr} {vs : List Value} {n : Nat} {xs : List (Str × Int)} (hl : s.heap.get? l = some (listOf vs.toArray n)) (hn : 2 <= vs.length \/ vs.length = 0) (h64 : vs.length < 64)
 (hp : qs5 cx.env.locals s.heap vs xs) {lam lc : Addr} (mlam : lam ∈ V) (mlc : lc ∈ V)
 (hlam : ∃ doc pm lct an, s.heap.get? lam = some ⟨.type "function", none, .func ⟨(qb3 g.w.params).name, (qb3 g.w.params).qual, (qb3 g.w.params).params, .expr (qb3 g.w.params).body, (qb3 g.w.params).scope, 3, [], .none, .none, doc, pm, an, .ref lc, lct, 0⟩, #[]⟩) (hlc : ∃ cd sl a0 r t, s.heap.get? lc = some (xe7 cd sl a0 r (qb3 g.w.params).qual t)) {Q : VP}
 (hQ : ∀ D c s', Inv g cx V st s' -> Ext cx V s.heap V s'.heap -> s.heap.get? D = none -> s'.heap.get? D = some (listOf (List.toArray ((ordR xs vs.length).map fun i => vs.getD i Value.none)) c) -> (∀ b o, s.heap.get? b = some o -> b ≠ cx.env.locals -> s'.heap.get? b = some o) -> Q (.ref D) s') :
 wpAny (model PySem.Challenge.rw_ik0059_01.prog g.w) A (call (.builtin "sorted") [.ref l] [(Str.ofString "key", .ref lam)]) Q E s := by
 rcases hn with h2 | h0
 . obtain ⟨doc, pm, lct, an, hlam⟩ := hlam
   obtain ⟨cd, sl, a0, r, t, hlc⟩ := hlc
   obtain ⟨m, hm, hr⟩ := I.loc
   refine zk0 (L := cx.env.locals) (m := m) hd hu hh (fun a o e => I.base a o (S.X a o e)) (KL S I) I.gens hm ⟨_, hl, rfl, _, rfl⟩ h2 h64 hp (I.own _ mlam).2.1 (I.own _ mlc).2.1 hlam hlc (fun D c s' e1 e2 e3 e4 e5 => ?_)
   have kk : ∀ b o, s.heap.get? b = some o -> b ≠ cx.env.locals -> s'.heap.get? b = some o := fun b o e nl => e3.get nl e
   obtain ⟨J, X⟩ := I.sorted kk ⟨m, e4, hr⟩ e5
   refine hQ D c s' J X e1 ?_ kk
   rw [e2, ordR, if_neg (by omega)]
 . obtain rfl := zd0 h0
   refine xi6 hd (by exact Nat.le_trans (by assumption) (by decide)) hh (xs6 I.gens hl fun D h' tk k e1 e2 e3 => ?_)
   obtain ⟨J, X⟩ := I.sorted (s' := { s with heap := h', gens := #[], toks := tk }) (fun b o e _ => e1 b o e) (I.loc_keep (Pre.refl V) fun o e => e1 _ o e) rfl
   exact hQ D k _ J X e2 (by rw [show ordR xs ([] : List Value).length = [] from if_pos rfl]; exact e3) (fun b o e _ => e1 b o e)
end
section
variable {g : Gl} {prog : Program} {cx : Cx} {n : Nat}
theorem qm3 {A : Around} {e : Expr} {f : AM AV} {a : AV} {V : List Addr} {st st₁ : St} {s : Shared} {Q E : VP} (h : RefE g prog cx n e f) (hA : AOk cx n A) (I : Inv g cx V st s) (hv : f st = .ok a st₁)
 (hQ : ∀ v ρ' s', repV g.ν ρ' a v -> Inv g cx ρ' st₁ s' -> Ext cx V s.heap ρ' s'.heap -> Q v s') : wpAny (model prog g.w) A (eval e cx.env) Q E s := by
 refine w3z (h A V st s hA trivial I (by rw [hv]; intro z; exact qt8 z)) ?_ ?_
 . rintro v s' ⟨b, st', ρ', e1, hr, I', X'⟩
   rw [hv] at e1; obtain ⟨rfl, rfl⟩ := z7q e1
   exact hQ v ρ' s' hr I' X'
 . rintro v s' ⟨k, st', ρ', e1, _⟩
   exact qj7 (hv.symm.trans e1)
theorem Inv.idx_lt {V : List Addr} {st : St} {s : Shared} (I : Inv g cx V st s) {i : Nat} {ao : AO} (h : st.H.t.get i = some ao) : i < st.H.n := by
 obtain ⟨a, o, h1, _⟩ := I.heap i ao h
 have := (List.getElem?_eq_some_iff.mp h1).1
 rw [I.size]; exact this
set_option tactic.hygienic true in
theorem ze8 {k ti line col : Nat} {st st₁ : St} {r : AV} (h : lamM k ti line col [] st = .ok r st₁) {i : Nat} {xs : List AV} (hi : st.H.t.get i = some (.list xs)) (hlt : i < st.H.n) : st₁.H.t.get i = some (.list xs) := by
 unfold lamM at h
 revert h
 induction e1 : st.H.t.get ti with
 | none => intro h; exact j1q h
 | some ao =>
  induction ao <;> try (intro h; exact j1q h)
  rename_i ps
  dsimp only
  have c1 : qo8 st.cel [] = some [] := rfl
  rw [c1]
  dsimp only
  have nti : i ≠ ti := by rintro rfl; rw [hi] at e1; cases e1
  induction e2 : xl1 ps line col with
  | some c =>
   dsimp only
   induction e3 : Nat.blt st.H.n z5q with
   | true =>
    intro h; obtain ⟨rfl, rfl⟩ := z7q h
    show (Tr.put _ 40 st.H.t st.H.n).get i = _
    rw [Tr.get_put _ _ _ _ _ (qa6 e3), if_neg (by exact Nat.ne_of_lt (by assumption))]
    exact hi
   | false => intro h; exact j1q h
  | none =>
   dsimp only
   induction e3 : Nat.blt (st.H.n + 1) z5q && Nat.blt ti z5q with
   | true =>
    intro h; obtain ⟨rfl, rfl⟩ := z7q h
    rw [Bool.and_eq_true] at e3
    have b1 := qa6 e3.1
    have b2 := qa6 e3.2
    show (Tr.put _ 40 (Tr.put _ 40 (Tr.put _ 40 st.H.t st.H.n) ti) (st.H.n + 1)).get i = _
    rw [Tr.get_put _ _ _ _ _ b1, if_neg (by exact Nat.ne_of_lt (Nat.lt_succ_of_lt (by assumption))), Tr.get_put _ _ _ _ _ b2, if_neg nti, Tr.get_put _ _ _ _ _ (by exact Nat.le_of_lt (by assumption)), if_neg (by exact Nat.ne_of_lt (by assumption))]
    exact hi
   | false => intro h; exact j1q h
set_option tactic.hygienic true in
theorem qr4 {t t' : Tr} (h : ∀ i ys, t.get i = some (.list ys) -> t'.get i = some (.list ys)) : ∀ {xs : List AV} {l : List (List Nat × Int × Int × Int)}, w4q t xs = some l -> w4q t' xs = some l := by
 intro xs
 induction xs with
 | nil => intro l e; exact e
 | cons x xs ih =>
  intro l e
  obtain ⟨i, nm, c, a, b, r, rfl, eo, e1, e2, rfl⟩ := xb0 e
  exact (congrArg (xj4 t' xs) (h _ _ eo)).trans (zc8 e1 (ih e2))
end
section
variable {g : Gl}
set_option maxHeartbeats 0 in
theorem xo9 (S : Sit g) {L : Addr} {fr : List Env} {n : Nat} {A : Around} {V : List Addr} {stB stC stD : St} {s : Shared} {kd : KD} {C cell lam lt : Addr} {F : List (Addr × Obj)} {Q : Flow -> Shared -> Prop} {E : VP} {p1 p2 p3 p4 p5 p6 p7 p8 p9 p10 p11 p12 p13 p14 p15 : Pos} {le : Expr} (hA : AOk (cxR g.w.params L fr) n A) (hn : 1 <= n)
 (I : Inv g (cxR g.w.params L fr) V { stB with loc := stB.loc.set 3 (some (.stat (.ref C))) } s) (K : KIn g V s.heap (some kd)) (hF : KSet g.w.params cell lam C lt F) (hS : xm5 (cxR g.w.params L fr) V s.heap F) (hlam : ∃ i c, stB.H.t.get i = some (.fn 3 [] none c) /\ stB.H.t.get c = some (.code 3) /\ V[i]? = some lam)
 (hle : RefE g PySem.Challenge.rw_ik0059_01.prog (cxR g.w.params L fr) n le (lamM 4 1 232 68 []))
 (hm : behindInMarks .Eq (.Call (.Name "sorted" p8) [.Name "due" p9] [⟨some "key", le, p10⟩] p11) = false)
 (h1 : qh6 stB = .ok .next stC) (h2 : ((lamM 4 1 232 68 []).bind (qk5 4)) stC = .ok .next stD)
 (hQ : ∀ ρ' s', Inv g (cxR g.w.params L fr) ρ' { stD with loc := stB.loc.set 3 (some (.stat (.ref C))) } s' -> KIn g ρ' s'.heap (some kd) -> Ext (cxR g.w.params L fr) V s.heap ρ' s'.heap -> Q (.ret (.bool true)) s') :
 wpAny (model PySem.Challenge.rw_ik0059_01.prog g.w) A (exec (.Return (some (.BoolOp .And [.Compare (.Name "told" p1) [.Eq] [.Name "due" p2] p3, .Compare (.Call (.Name "sorted" p4) [.Name "told" p5] [⟨some "key", .Name "key" p6, p7⟩] p12) [.Eq] [.Call (.Name "sorted" p8) [.Name "due" p9] [⟨some "key", le, p10⟩] p11] p13] p14)) p15) (cxR g.w.params L fr).env) Q E s := by
 obtain ⟨rfl, c, i, j, k, xs, ys, l, sq, hloc, hi, hj, hx, hy, h60, h20, heq⟩ := zd5 h1
 obtain ⟨a, st₅, e0, e1⟩ := v6q h2
 obtain ⟨rfl, li, lc, rfl, e2, e3⟩ := zs4 e1
 have hloc' : stC.loc.set 3 (some (.stat (.ref C))) = [c, some (.ref i), some (.ref j), some (.stat (.ref C))] := by rw [hloc]; rfl
 rw [hloc'] at I hQ
 have l1 : locM 1 { stC with loc := [c, some (.ref i), some (.ref j), some (.stat (.ref C))] } = .ok (.ref i) { stC with loc := [c, some (.ref i), some (.ref j), some (.stat (.ref C))] } := rfl
 have l2 : locM 2 { stC with loc := [c, some (.ref i), some (.ref j), some (.stat (.ref C))] } = .ok (.ref j) { stC with loc := [c, some (.ref i), some (.ref j), some (.stat (.ref C))] } := rfl
 have l3 : locM 3 { stC with loc := [c, some (.ref i), some (.ref j), some (.stat (.ref C))] } = .ok (.stat (.ref C)) { stC with loc := [c, some (.ref i), some (.ref j), some (.stat (.ref C))] } := rfl
 have hcmp : bin2 (locM 2) (locM 1) (eqM false) { stC with loc := [c, some (.ref i), some (.ref j), some (.stat (.ref C))] } = .ok (.bool true) { stC with loc := [c, some (.ref i), some (.ref j), some (.stat (.ref C))] } := eqM_H heq rfl
 have hlm := zr7 (st' := { stC with loc := [c, some (.ref i), some (.ref j), some (.stat (.ref C))] }) e0 rfl
 have hel : stD.cel = stC.cel := by
  have z := zr7 (st' := stC) e0 rfl
  rw [e0] at z
  injection z with _ z
  rw [z]
 have hQ' : ∀ ρ' s', Inv g (cxR g.w.params L fr) ρ' { { stC with loc := [c, some (.ref i), some (.ref j), some (.stat (.ref C))] } with H := stD.H } s' -> KIn g ρ' s'.heap (some kd) -> Ext (cxR g.w.params L fr) V s.heap ρ' s'.heap -> Q (.ret (.bool true)) s' := by
  rw [hel] at hQ
  exact hQ
 generalize hst : ({ stC with loc := [c, some (.ref i), some (.ref j), some (.stat (.ref C))] } : St) = st at I l1 l2 l3 hcmp hlm hQ'
 have hH : st.H = stC.H := by rw [<- hst]
 rw [<- hH] at hi hj hx hy hlam
 obtain ⟨ii, cc, g1, g2, g3⟩ := hlam
 have hd : A.depth <= 900 := by have := hA.depth; exact Nat.le_trans (Nat.le_add_right _ _) (Nat.le_trans (by assumption) (by decide))
 have hu : A.units <= 8990 := by have := hA.units; omega
 have hh : A.handled = none := hA.quiet rfl
 refine wpAny_Return_some (wpAny_And2 (qm3 (jn2 rfl (q0q (i := 2) rfl rfl rfl rfl) (q0q (i := 1) rfl rfl rfl rfl) xl5) hA I hcmp fun v V1 s1 hr I1 X1 => ?_))
 subst hr
 refine wpAny_truthy_bool ?_
 rw [if_pos rfl]
 refine wpAny_Compare1 ?_ hm
 have K1 := K.ext I X1
 have S1 := hS.ext X1
 -- the first: told by the key that cmp_to_key made
 refine wpAny_Call_Name_kw (qm3 (q9q S.G (xj7 S) rfl (by decide +kernel) rfl rfl rfl rfl rfl) hA I1 rfl fun v V2 s2 hr I2 X2 => ?_)
 subst hr
 have K2 := K1.ext I1 X2
 have S2 := S1.ext X2
 refine callWith_kw (wpAny_items_cons (qm3 (q0q (i := 2) rfl rfl rfl rfl) hA I2 l2 fun v V3 s3 hr I3 X3 => wpAny_items_nil (kws_cons (qm3 (q0q (i := 3) rfl rfl rfl rfl) hA I3 l3 fun w V4 s4 hrw I4 X4 => kws_nil ?_))))
 subst hrw
 obtain ⟨tj, htj, rfl⟩ := hr
 have htj4 := X4.pre.get htj
 have K4 := (K2.ext I2 X3).ext I3 X4
 have S4 := (S2.ext X3).ext X4
 have P4 := ((X1.trans X2).trans X3).trans X4
 obtain ⟨tj', oj, q1, q2, vs, nv, q3, rfl⟩ := I4.heap j _ hj
 obtain rfl := w4z (htj4.symm.trans q1)
 obtain ⟨pa, pc, plen⟩ := qo9 I4 hy q3
 have hxy : xs.length = l.length /\ ys.length = l.length := by
  have z1 := I4.heap i _ hi
  obtain ⟨_, _, _, _, vs', _, z2, _⟩ := z1
  have := (qo9 I4 hx z2).2.2
  exact ⟨z2.length.trans this, q3.length.trans plen⟩
 have hn2 : 2 <= vs.length \/ vs.length = 0 := by rw [plen, <- hxy.1]; exact h20
 have h64 : vs.length < 64 := by rw [plen, <- hxy.1]; exact Nat.lt_of_le_of_lt (by assumption) (by decide)
 obtain ⟨la, lca, w1, w2, w3, w4⟩ := zr6 I4 g1 g2 (fn3 S) rfl
 rw [P4.pre.get g3] at w1
 obtain rfl := w4z w1
 refine xx0 S hd hu hh I4 q2 hn2 h64 pa hF S4 (w7z (P4.pre.get g3)) (w7z w2) w3 w4 fun D1 c1 s5 I5 X5 d1 d2 kk5 => ?_
 have K5 := K4.ext I4 X5
 have D5 : xm5 (cxR g.w.params L fr) V4 s5.heap [(D1, listOf (List.toArray ((ordR (xsOf g.ν l) vs.length).map fun i => vs.getD i Value.none)) c1)] := fun p hp => by
  rw [List.mem_singleton.mp hp]
  exact ⟨I4.away d1, d2⟩
 -- the second
 refine wpAny_Call_Name_kw (qm3 (q9q S.G (xj7 S) rfl (by decide +kernel) rfl rfl rfl rfl rfl) hA I5 rfl fun v V6 s6 hr I6 X6 => ?_)
 subst hr
 have K6 := K5.ext I5 X6
 have D6 := D5.ext X6
 refine callWith_kw (wpAny_items_cons (qm3 (q0q (i := 1) rfl rfl rfl rfl) hA I6 l1 fun v V7 s7 hr I7 X7 => wpAny_items_nil (kws_cons (qm3 hle hA I7 hlm fun w V8 s8 hrw I8 X8 => kws_nil ?_))))
 obtain ⟨lam4, hl4, rfl⟩ := hrw
 obtain ⟨ti, hti, rfl⟩ := hr
 have hti8 := X8.pre.get hti
 have K8 := (K6.ext I6 X7).ext I7 X8
 have D8 := (D6.ext X7).ext X8
 have hlm' : lamM 4 1 232 68 [] st = .ok (.ref li) { st with H := stD.H } := hlm
 have kp : ∀ i ys, st.H.t.get i = some (.list ys) -> stD.H.t.get i = some (.list ys) := fun i ys z => ze8 hlm' z (I7.idx_lt z)
 obtain ⟨ti', oi, q4, q5, us, nu, q6, rfl⟩ := I8.heap i _ (kp _ _ hi)
 obtain rfl := w4z (hti8.symm.trans q4)
 obtain ⟨ua, uc, ulen⟩ := qo9 I8 (qr4 kp hx) q6
 have P8 : Pre V4 V8 := (X6.pre.trans X7.pre).trans X8.pre
 obtain ⟨la4, lca4, v1, v2, v3, v4⟩ := zr6 I8 e2 e3 (fn4 S) rfl
 obtain rfl := w4z (hl4.symm.trans v1)
 refine xo5 S hd hu hh I8 q5 (by rw [ulen, <- plen]; exact hn2) (by rw [ulen, <- plen]; exact h64) ua (w7z hl4) (w7z v2) v3 v4 fun D2 c2 s9 I9 X9 d3 d4 kk9 => ?_
 have K9 := K8.ext I8 X9
 have D9 := D8.ext X9
 obtain ⟨pa9, pc9, _⟩ := qo9 I9 (qr4 kp hy) (q3.mono P8)
 obtain ⟨ua9, uc9, _⟩ := qo9 I9 (qr4 kp hx) q6
 have led : qh3 s9.heap (qb0 (cxR g.w.params L fr).env.locals s9.heap) := fun p hp => (ql6.mp hp).2
 have o1 := qr3 pa9 led (ordR (xsOf g.ν l) vs.length) xp3
 have o2 := qr3 ua9 led (ordR (xsOf g.ν l) us.length) xp3
 rw [ulen, <- plen] at d4 o2
 refine zo0 (by exact Nat.le_trans (by assumption) (by decide)) (D9 _ (.head _)).2 d4 o1 o2 (fun a ha => ?_) ?_
 . obtain ⟨q, hq, rfl⟩ := List.mem_map.mp ha
   have hlt := xp3 q hq
   have hlen : (xsOf g.ν l).length = l.length := by simp [xsOf]
   rw [plen, <- hlen] at hlt
   rw [List.getD_eq_getElem?_getD, List.getElem?_eq_getElem hlt]
   exact pc9 _ (List.getElem_mem hlt)
 . exact hQ' V8 s9 I9 K9 (((((P4.trans X5).trans X6).trans X7).trans X8).trans X9)
end
theorem qu7 {f f' : AM AF} {st st' : St} {x : AF} (h : seqM f f' st = .ok x st') (hn : ∀ y s, f st = .ok y s -> y = .next) : ∃ st₁, f st = .ok .next st₁ /\ f' st₁ = .ok x st' := by
 obtain ⟨y, st₁, h1, h2⟩ := v6q h
 obtain rfl := hn y st₁ h1
 exact ⟨st₁, h1, h2⟩
set_option tactic.hygienic true in
theorem zb3 {f : AM AV} {px py : AV -> AM Unit} {st st' : St} {y : AF} (h : xi9 f px py st = .ok y st') : y = .next := by
 unfold xi9 at h
 obtain ⟨a, st₁, h1, h2⟩ := v6q h
 induction a <;> try exact j1q h2
 rename_i i
 dsimp only at h2
 generalize st₁.H.t.get i = o at h2
 rcases o with _ | o <;> try exact j1q h2
 cases o <;> try exact j1q h2
 rename_i xs
 rcases xs with _ | ⟨u, _ | ⟨v, _ | ⟨_, _⟩⟩⟩ <;> try exact j1q h2
 obtain ⟨_, _, _, h3⟩ := v6q h2
 obtain ⟨_, _, _, h4⟩ := v6q h3
 exact (z7q h4).1.symm
theorem zp0 {k : Nat} {a : AV} {st st' : St} {y : AF} (h : qk5 k a st = .ok y st') : y = .next := (zh7 h).1
theorem xt9 {k m ti l c : Nat} {st st' : St} {y : AF} (h : ((lamM k ti l c []).bind (qk5 m)) st = .ok y st') : y = .next := by
 obtain ⟨_, _, _, h2⟩ := v6q h
 exact zp0 h2
theorem zl5 {st st' : St} {y : AF} (h : qh6 st = .ok y st') : y = .next := (zd6 h).1
section
variable {g : Gl}
noncomputable def le3 (P : PySem.Params) : Expr := .Lambda (qb4 P).params (qb4 P).body (qb4 P).scope ⟨231, 21, 231, 116⟩
noncomputable def le4 (P : PySem.Params) : Expr := .Lambda (qb3 P).params (qb3 P).body (qb3 P).scope ⟨232, 68, 232, 100⟩
noncomputable def st1R : Stmt := .Assign [.Tuple [.Name "due" ⟨230, 4, 230, 7⟩, .Name "told" ⟨230, 9, 230, 13⟩] 0 ⟨230, 4, 230, 13⟩] (.Tuple [.Call (.Name "_law_hand" ⟨230, 17, 230, 26⟩) [.Name "cells" ⟨230, 27, 230, 32⟩] [] ⟨230, 17, 230, 33⟩, .Call (.Name "_law_worths" ⟨230, 35, 230, 46⟩) [.Name "cells" ⟨230, 47, 230, 52⟩] [] ⟨230, 35, 230, 53⟩] 0 ⟨230, 16, 230, 54⟩) ⟨230, 4, 230, 54⟩
noncomputable def st2R (P : PySem.Params) : Stmt := .Assign [.Name "key" ⟨231, 4, 231, 7⟩] (.Call (.Name "cmp_to_key" ⟨231, 10, 231, 20⟩) [le3 P] [] ⟨231, 10, 231, 117⟩) ⟨231, 4, 231, 117⟩
noncomputable def st3R (P : PySem.Params) : Stmt := .Return (some (.BoolOp .And [.Compare (.Name "told" ⟨232, 11, 232, 15⟩) [.Eq] [.Name "due" ⟨232, 19, 232, 22⟩] ⟨232, 11, 232, 22⟩, .Compare (.Call (.Name "sorted" ⟨232, 27, 232, 33⟩) [.Name "told" ⟨232, 34, 232, 38⟩] [⟨some "key", .Name "key" ⟨232, 44, 232, 47⟩, ⟨232, 40, 232, 47⟩⟩] ⟨232, 27, 232, 48⟩) [.Eq] [.Call (.Name "sorted" ⟨232, 52, 232, 58⟩) [.Name "due" ⟨232, 59, 232, 62⟩] [⟨some "key", le4 P, ⟨232, 64, 232, 100⟩⟩] ⟨232, 52, 232, 101⟩] ⟨232, 27, 232, 101⟩] ⟨232, 11, 232, 101⟩)) ⟨232, 4, 232, 101⟩
theorem zs2 (P) : (KG P).lookup 222 = some ⟨.type "function", none, .func (fdR P), #[]⟩ := by kernel_rfl
theorem zn5 (P) : (fdR P).body = .stmts [st1R, st2R P, st3R P] := by kernel_rfl
theorem zg7 (P) : (fdR P).scope.names.all (fun x => match x.2 with | .cell => false | _ => true) = true := by kernel_rfl
theorem zn6 {P : PySem.Params} {vs : List Value} {s : Shared} (h : vs.length = 1) : BindsTo s (fdR P) ⟨vs, []⟩ ([("cells" : Str)].zip vs) := x9q h fun a => by kernel_rfl
theorem zn4 (S : Sit g) : g.U.CodeRec (fdR g.w.params).code (fdR g.w.params).qualname := j5q (c := 221) S (by rfl) (by rfl) (by rfl) (by rfl)
theorem zx2 (P) : (fdR P).scope.names.lookup ("cells" : Str) = some NameKind.local := by kernel_rfl
theorem jl0 (P) : (fdR P).scope.isCoroutine = false := by kernel_rfl
theorem zx3 (P) : (fdR P).scope.isGenerator = false := by kernel_rfl
theorem zs1 (P) : (fdR P).scope.kind = .function := by kernel_rfl
theorem jf6 (S : Sit g) {L : Addr} {fr : List Env} : RefS g PySem.Challenge.rw_ik0059_01.prog (cxR g.w.params L fr) 300 st1R
 (xi9 (qm2 [((q8q [(locM 0)]).bind (qg6 g.mt)), ((q8q [(locM 0)]).bind (qa9 g.mt))]) (q7q 1) (q7q 2)) :=
 zs6 (x := "due") (y := "told") rfl (by kernel_rfl) (by kernel_rfl) (qo5 (q1q (w2q (xr7 S) (xr6 S) (by decide) rfl (k9q S.G (xj8 S) rfl rfl rfl rfl) (q1q (q0q (i := 0) rfl rfl rfl rfl) rfl q4q)) rfl (q1q (w2q (xh7 S) (xh5 S) (by decide) rfl (k9q S.G (qz2 S) rfl rfl rfl rfl) (q1q (q0q (i := 0) rfl rfl rfl rfl) rfl q4q)) rfl q4q))) (q5q (i := 1) rfl (uniq (l := ["cells", "due", "told", "key"]) (by decide +kernel) rfl) rfl rfl) (q5q (i := 2) rfl (uniq (l := ["cells", "due", "told", "key"]) (by decide +kernel) rfl) rfl rfl)
theorem R_le3 (S : Sit g) {L : Addr} {fr : List Env} : RefE g PySem.Challenge.rw_ik0059_01.prog (cxR g.w.params L fr) 300 (le3 g.w.params) (lamM 3 1 231 21 []) := qq9 S.G S.B (by kernel_rfl) (z3q rfl) .nil rfl rfl S.c2 (tab1 S) (fn3 S) (by kernel_rfl)
theorem R_le4 (S : Sit g) {L : Addr} {fr : List Env} : RefE g PySem.Challenge.rw_ik0059_01.prog (cxR g.w.params L fr) 300 (le4 g.w.params) (lamM 4 1 232 68 []) := qq9 S.G S.B (by kernel_rfl) (z3q rfl) .nil rfl rfl S.c2 (tab1 S) (fn4 S) (by kernel_rfl)
theorem R_st {P : PySem.Params} {L : Addr} {fr : List Env} : starEach [le3 P] (cxR P L fr).env = (false, eval (le3 P) (cxR P L fr).env) :: starEach [] (cxR P L fr).env := by kernel_rfl
theorem R_sw {P : PySem.Params} {L : Addr} {fr : List Env} : swapsWith (.Call (.Name "cmp_to_key" ⟨231, 10, 231, 20⟩) [le3 P] [] ⟨231, 10, 231, 117⟩) (some (.Name "key" ⟨231, 4, 231, 7⟩)) 231 (cxR P L fr).env = pure false := by kernel_rfl
theorem R_bm {P : PySem.Params} : behindInMarks .Eq (.Call (.Name "sorted" ⟨232, 52, 232, 58⟩) [.Name "due" ⟨232, 59, 232, 62⟩] [⟨some "key", le4 P, ⟨232, 64, 232, 100⟩⟩] ⟨232, 52, 232, 101⟩) = false := by kernel_rfl
set_option tactic.hygienic true in
theorem zh9 {p k : Nat} {fb : AM AF} {as : List AV} {st st' : St} {v : AV} (h : jf0 p k fb as st = .ok v st') : as.length = p /\ ∃ x st₁, fb ⟨st.H, qj6 as k, []⟩ = .ok x st₁ /\ st' = { st with H := st₁.H } /\ (x = .ret v \/ (x = .next /\ v = .none)) := by
 unfold jf0 at h
 induction e : Nat.beq as.length p with
 | false => exact j1q (e ▸ h)
 | true =>
  rw [e] at h
  refine ⟨Nat.eq_of_beq_eq_true e, ?_⟩
  dsimp only at h
  split at h
  . rename_i v' st'' e'
    obtain ⟨rfl, rfl⟩ := z7q h
    exact ⟨_, _, e', rfl, .inl rfl⟩
  . rename_i st'' e'
    obtain ⟨rfl, rfl⟩ := z7q h
    exact ⟨_, _, e', rfl, .inr ⟨rfl, rfl⟩⟩
  . exact j1q h
theorem five {SW KEY MID LAM : AM AF} {v : AV} {st st' : St} {x : AF} (n1 : ∀ st y s, SW st = .ok y s -> y = .next) (n2 : ∀ st y s, KEY st = .ok y s -> y = .next) (n3 : ∀ st y s, MID st = .ok y s -> y = .next) (n4 : ∀ st y s, LAM st = .ok y s -> y = .next)
 (h : seqM SW (seqM KEY (seqM MID (seqM LAM (AM.ret (.ret v))))) st = .ok x st') : ∃ st₁ stB stC, SW st = .ok .next st₁ /\ KEY st₁ = .ok .next stB /\ MID stB = .ok .next stC /\ LAM stC = .ok .next st' /\ x = .ret v := by
 obtain ⟨st₁, q1, r1⟩ := qu7 h (n1 _)
 obtain ⟨stB, q2, r2⟩ := qu7 r1 (n2 _)
 obtain ⟨stC, q3, r3⟩ := qu7 r2 (n3 _)
 obtain ⟨stD, q4, r4⟩ := qu7 r3 (n4 _)
 obtain ⟨rfl, rfl⟩ := z7q r4
 exact ⟨st₁, stB, stC, q1, q2, q3, q4, rfl⟩
theorem qr1 {as : List AV} {st st' : St} {v : AV} (h : qi3 g.mt as st = .ok v st') : as.length = 1 /\ ∃ st₁ stB stC stD, xi9 (qm2 [((q8q [(locM 0)]).bind (qg6 g.mt)), ((q8q [(locM 0)]).bind (qa9 g.mt))]) (q7q 1) (q7q 2) ⟨st.H, qj6 as 3, []⟩ = .ok .next st₁ /\ (lamM 3 1 231 21 []).bind (qk5 3) st₁ = .ok .next stB /\ qh6 stB = .ok .next stC /\ (lamM 4 1 232 68 []).bind (qk5 4) stC = .ok .next stD /\ v = .bool true /\ st' = { st with H := stD.H } := by
 obtain ⟨h1, x, st₁, h2, h3, h4⟩ := zh9 h
 obtain ⟨s1, s2, s3, q1, q2, q3, q4, rfl⟩ := five (fun _ _ _ z => zb3 z) (fun _ _ _ z => xt9 z) (fun _ _ _ z => zl5 z) (fun _ _ _ z => xt9 z) h2
 refine ⟨h1, s1, s2, s3, st₁, q1, q2, q3, q4, ?_, h3⟩
 rcases h4 with h4 | ⟨h4, _⟩
 . cases h4; rfl
 . cases h4
set_option maxHeartbeats 0 in
theorem xa7 (S : Sit g) {cx : Cx} {n : Nat} {A : Around} {V : List Addr} {as : List AV} {vs : List Value} {st st' : St} {v : AV} {s : Shared} {ok : Option KD} {Q E : VP} (hA : AOk cx n A) (hn : 301 <= n) (hq : cx.q = true) (hp : reps g.ν V as vs) (I : Inv g cx V st s) (K : KIn g V s.heap ok)
 (hb : qi3 g.mt as st = .ok v st') (hQ : ∀ kd ρ' s', Inv g cx ρ' st' s' -> KIn g ρ' s'.heap (some kd) -> Q (.bool true) s') :
 wpAny (model PySem.Challenge.rw_ik0059_01.prog g.w) A (call (.ref 222) vs) Q E s := by
 obtain ⟨hlen, st₁, stB, stC, stD, m1, m2, m3, m4, rfl, rfl⟩ := qr1 hb
 have hvl : vs.length = [("cells" : Str)].length := hp.length ▸ hlen
 have hnone : s.heap.get? s.heap.objs.size = none := by
  induction q : s.heap.get? s.heap.objs.size with
  | none => rfl
  | some o => exact absurd (Heap.lt_size q) (Nat.lt_irrefl _)
 refine wpAny_call ?_
 refine codeAny_call_def (fd := fdR g.w.params) (binds := [("cells" : Str)].zip vs) (by have := hA.depth; have : recursionLimit = 1000 := rfl; exact xr1 (by assumption)) (I.base 222 _ (S.X 222 _ (zs2 _))) rfl (S.G.nl.keeps I.base) ((zn4 S).keeps I.base) (zn5 _) (zn6 hvl) (fun x hx z => ?_) (fun x hx => ?_) (fun h₁ hns hk => ?_) (jl0 _) (zx3 _) (zs1 _)
 . have := List.all_eq_true.mp (zg7 _) x hx
   rw [z] at this
   exact j7q this
 . have := (List.of_mem_zip hx).1
   rw [List.mem_singleton.mp this]
   exact zx2 _
 . have I₁ : Inv g (cxR g.w.params s.heap.objs.size cx.fr) V ⟨st.H, qj6 as 3, []⟩ { s with heap := h₁, toks := s.toks + ([("cells" : Str)].zip vs).length } := xq9 (q := true) (tk := s.toks + ([("cells" : Str)].zip vs).length) (a := 222) (rest := ["due", "told", "key"]) (fd := fdR g.w.params) S.G I hk hns hp hlen (by decide +kernel) (zs1 _)
   have hA' : AOk (cxR g.w.params s.heap.objs.size cx.fr) 300 (A.deeper (callEnv (fdR g.w.params) s.heap.objs.size 222)) :=
    ⟨by show (A.frames.map _) = _; rw [hA.frames]; rfl, by have := hA.depth; show A.depth + 1 + 300 <= 900; exact zg8 (by assumption) (by assumption), by have := hA.units; show A.units + 3 + 10 * 300 <= 9000; exact za8 (by assumption) (by assumption), fun _ => hA.quiet hq⟩
   have K₁ : KIn g V h₁ ok := K.grow hk fun _ h1 h2 => absurd h1 h2
   refine wpAny_execs_cons (w3z ((jf6 S) _ V _ _ hA' trivial I₁ (by show xi9 _ _ _ ⟨st.H, qj6 as 3, []⟩ ≠ .bad; rw [m1]; intro z; exact qt8 z)) ?_ ?_)
   . rintro fl s₁ ⟨x, st1, VA, e, hr, JA, XA⟩
     have e' := m1.symm.trans e
     cases e'
     subst hr
     have LA := K₁.ext I₁ XA
     have hl4 : stB.loc.length = 4 := by
      obtain ⟨_, c, i, j, k, _, _, _, _, hl, _⟩ := zd5 m3
      rw [hl]; rfl
     refine wpAny_execs_cons (zm6 S hA' (Nat.le_refl _) JA LA (R_le3 S) R_st R_sw m2 hl4 fun C cell lam kd lt F VB sB JB LB YB hF hS hl => ?_)
     refine wpAny_execs_cons (xo9 S hA' (by decide) JB LB hF hS hl (R_le4 S) R_bm m3 m4 fun VC sC JC LC XC => ?_)
     have XA' : ExtN (cxR g.w.params s.heap.objs.size cx.fr) V h₁ VA s₁.heap := ExtN.of XA LA.l37
     have XC' : ExtN (cxR g.w.params s.heap.objs.size cx.fr) VB sB.heap VC sC.heap := ExtN.of XC LC.l37
     have h37 : cx.env.locals ≠ 37 := fun z => by
      obtain ⟨vs', e37⟩ := K.ks.t37
      exact (I.nodict e37 (fun _ _ z => by cases z)).1 z.symm
     have J := (jj1 (s₁ := { s with heap := h₁, toks := s.toks + ([("cells" : Str)].zip vs).length }) (cx' := cxR g.w.params s.heap.objs.size cx.fr) I hk hnone h37 (fun b z => by obtain ⟨e, he, hf⟩ := z; exact ⟨e, w9z _ he, hf⟩) (fun e he => w9z _ he) JC ((XA'.trans YB).trans XC'))
     exact hQ kd VC sC J LC
   . rintro e s' ⟨k, st'', ρ', e', _⟩
     cases m1.symm.trans e'
end
noncomputable def y6q (h : Heap) (l : List Addr) : Heap := { h with objs := h.objs.mapIdx fun a o => if a ∈ l then ⟨.none, none, .freed, #[]⟩ else o }
theorem z1q (h : Heap) (l : List Addr) (a : Addr) : (y6q h l).get? a = if a ∈ l then none else h.get? a := by
 unfold y6q Heap.get?
 skip
 rw [Array.getElem?_mapIdx]
 by_cases m : a ∈ l
 . rw [if_pos m]
   induction h.objs[a]? with
   | none => rfl
   | some o => simp [m]
 . rw [if_neg m]
   induction h.objs[a]? with
   | none => rfl
   | some o => simp [m]
theorem zc5 {g : Gl} {h0' : Heap} {V : List Addr} : ∀ {l : List (List Nat × AV)} {vs : List DictEntry}, k1q { g with U := h0' } V l vs -> k1q g V l vs
 | [], [], _ => trivial
 | _ :: _, _ :: _, h => ⟨h.1, h.2.1, zc5 h.2.2⟩
 | [], _ :: _, h => h
 | _ :: _, [], h => h
theorem zk7 {g : Gl} {h0' : Heap} {V : List Addr} {o : Obj} {ao : AO} (x : j2q { g with U := h0' } V o ao) : j2q g V o ao := by
 induction ao with
 | list xs => obtain ⟨vs, n, h1, h2⟩ := x; exact ⟨vs, n, h1, h2⟩
 | tuple xs => obtain ⟨vs, n, h1, h2⟩ := x; exact ⟨vs, n, h1, h2⟩
 | dict es ep => obtain ⟨fs, h1, h2, h3⟩ := x; exact ⟨fs, zc5 h1, h2, h3⟩
 | node C d sl => obtain ⟨dx, vs, h1, h2, h3⟩ := x; exact ⟨dx, vs, h1, h2, h3⟩
 | fn k cells d c =>
  obtain ⟨fd, h1, h2, h3, h4, ⟨info, f1, f2, f3, f4, f5, f6, f7⟩, h6, h7, h8, h9, h10, cx, h11, h12⟩ := x
  exact ⟨fd, h1, h2, h3, h4, ⟨info, f1, f2, f3, f4, f5, f6, f7⟩, h6, h7, h8, h9, h10, cx, h11, h12⟩
 | _ => exact x
theorem Inv.more {g : Gl} {h0' : Heap} {cx : Cx} {V : List Addr} {st : St} {s : Shared} (I : Inv { g with U := h0' } cx V st s) (hb : ∀ b o, g.U.get? b = some o -> s.heap.get? b = some o) (ho : ∀ a ∈ V, g.U.get? a = none) (hl : g.U.get? cx.env.locals = none)
 (hf : ∀ e ∈ cx.fr, ∀ b, e.frame = some b -> g.U.get? b = none) : Inv g cx V st s := by
 refine ⟨hb, fun a ha => ⟨ho a ha, (I.own a ha).2⟩, I.nodup, I.live, fun i ao e => ?_, I.size, I.loc, hl, I.cells, fun e he => ?_, I.gens, I.drawn, I.os, I.tabs⟩
 . obtain ⟨a, o, h1, h2, h3⟩ := I.heap i ao e
   exact ⟨a, o, h1, h2, zk7 h3⟩
 . obtain ⟨h0, b, o, es, ep, h1, h2, h3, h4⟩ := I.frs e he
   exact ⟨h0, b, o, es, ep, h1, h2, h3, hf e he b h1⟩
noncomputable def nmL : List Str := ["script", "numbers", "k", "octets", "turned"]
noncomputable def cnL : List Str := ["drawn", "cells", "ends", "cut"]
noncomputable def cxL (fd : FuncData) (L : Addr) : Cx := ⟨callEnvC fd L 227, nmL, cnL, [callEnvC fd L 227], true⟩
noncomputable def qv1 : Hp := (((Hp.mk 0 .nil).push (.tab [])).push (.tab [])).push (.tab [])
noncomputable def stE (l : Addr) : St := ⟨(((qv1.push (.cell none)).push (.cell none)).push (.cell none)).push (.cell none), [some (.stat (.ref l)), none, none, none, none], [3, 4, 5, 6]⟩
theorem zb2 {i : Nat} {ao : AO} (h : qv1.t.get i = some ao) : i < 3 /\ ao = .tab [] := by
 have e : qv1.t.get i = if i = 2 then some (.tab []) else if i = 1 then some (.tab []) else if i = 0 then some (.tab []) else none := by
  show (Tr.put (.tab []) 40 (Tr.put (.tab []) 40 (Tr.put (.tab []) 40 .nil 0) 1) 2).get i = _
  rw [Tr.get_put _ _ _ _ _ (by decide), Tr.get_put _ _ _ _ _ (by decide), Tr.get_put _ _ _ _ _ (by decide)]
  rfl
 rw [e] at h
 split at h
 . obtain rfl := w4z h; exact ⟨by exact Nat.le_of_eq (congrArg (· + 1) (by assumption)), rfl⟩
 . split at h
   . obtain rfl := w4z h; exact ⟨by (subst_vars; decide), rfl⟩
   . split at h
     . obtain rfl := w4z h; exact ⟨by (subst_vars; decide), rfl⟩
     . exact q6q h
theorem ze6 {prog : Program} {g : Gl} {s : Shared} {fd : FuncData} {o : Obj} {body : List Stmt} {l : Addr} {mb : Str -> Option Value}
 (ho : g.U.get? 227 = some o) (hd : o.data = .func fd) (hcd : g.U.CodeRec fd.code fd.qualname) (hbody : fd.body = .stmts body) (hclo : fd.closure = [])
 (hbind : BindsTo s fd ⟨[.ref l], []⟩ [("script", .ref l)]) (hnl : ∀ x ∈ nmL, fd.scope.names.lookup x = some .local) (hnc : ∀ x ∈ cnL, fd.scope.names.lookup x = some .cell) (hcl : ∀ x ∈ cnL, x ∈ (cellsFrom 0 fd.scope.names []).map (·.1))
 (hco : fd.scope.isCoroutine = false) (hgen : fd.scope.isGenerator = false) (hkd : fd.scope.kind = .function)
 (nl : g.U.NoLimit) (base : ∀ b o, g.U.get? b = some o -> s.heap.get? b = some o) (hns : s.heap.Ns builtinsNs mb) (ht : g.tabs = [207, 217, 195]) (t1 : ∀ a ∈ [207, 217, 195], s.heap.get? a = some (tabObj #[]) /\ g.U.get? a = none)
 (hg : s.gens = #[]) (hd0 : s.drawn = g.dO) (hos : s.os = g.osO) {Q E : VP}
 (h : ∀ V sB, Inv g (cxL fd s.heap.objs.size) V (stE l) sB -> (∀ b o, s.heap.get? b = some o -> sB.heap.get? b = some o) -> (∀ a ∈ V, a ∈ [207, 217, 195] \/ s.heap.get? a = none) ->
  wpAny (model prog g.w) (callerA.deeper (callEnvC fd s.heap.objs.size 227)) (execs body (callEnvC fd s.heap.objs.size 227)) (fun f s' => Q (match f with | .ret v => v | _ => .none) s') (fun _ _ => False) sB) :
 wpAny (model prog g.w) callerA (call (.ref 227) [.ref l]) Q E s := by
 have I0 : Inv { g with U := y6q g.U [builtinsNs] } ⟨callEnvC fd builtinsNs 227, [], [], [], true⟩ [207, 217, 195] ⟨qv1, [], []⟩ s := by
  refine ⟨fun b o e => ?_, fun a ha => ?_, by decide, fun a ha => ⟨_, (t1 a ha).1⟩, fun i ao e => ?_, rfl, ⟨mb, hns, fun i x hx => by simp at hx⟩, ?_, fun i x hx => by simp at hx, fun e he => (by cases he), hg, hd0, hos, by show Pre g.tabs _; rw [ht]; exact Pre.refl _⟩
  . have e' : (y6q g.U [builtinsNs]).get? b = some o := e
    rw [z1q] at e'
    split at e'
    . cases e'
    . exact base b o e'
  . refine ⟨?_, ?_, ?_⟩
    . show (y6q g.U [builtinsNs]).get? a = none
      rw [z1q]
      split
      . rfl
      . exact (t1 a ha).2
    . show a ≠ builtinsNs
      rintro rfl
      revert ha
      decide
    . rintro ⟨e, he, _⟩
      cases he
  . obtain ⟨h1, rfl⟩ := zb2 e
    have : i = 0 \/ i = 1 \/ i = 2 := by omega
    rcases this with rfl | rfl | rfl
    . exact ⟨207, _, rfl, (t1 207 (by simp)).1, [], trivial, rfl⟩
    . exact ⟨217, _, rfl, (t1 217 (by simp)).1, [], trivial, rfl⟩
    . exact ⟨195, _, rfl, (t1 195 (by simp)).1, [], trivial, rfl⟩
  . show (y6q g.U [builtinsNs]).get? builtinsNs = none
    rw [z1q]; simp
 have mem_lookup : ∀ k x, x ∈ (cellsFrom 0 fd.scope.names []).map (·.1) -> ∃ c, (cellsFrom k fd.scope.names []).lookup x = some c := by
  intro k x hx
  rw [cellsFrom_names fd.scope.names 0 k [] [] rfl] at hx
  have : ∀ (l : List (Str × Addr)), x ∈ l.map (·.1) -> ∃ c, l.lookup x = some c := by
   intro l
   induction l with
   | nil => intro h; cases h
   | cons e l ih =>
    intro h
    obtain ⟨k, v⟩ := e
    rw [List.lookup_cons]
    induction q : x == k with
    | true => exact ⟨v, rfl⟩
    | false =>
     rcases List.mem_cons.mp h with z | z
     . have z' : x = k := z
       rw [z'] at q; simp at q
     . exact ih z
  exact this _ hx
 refine wpAny_call ?_
 refine codeAny_call_function (by decide) (base 227 o ho) hd hco hgen hbody (hcd.keeps base) ?_
 refine hbind _ _ _ _ ?_
 rw [hclo]
 refine wpAny_newFunctionEnv_cells hkd (fun x hx => ?_) fun env he sB x => ?_
 . rw [List.mem_singleton.mp hx]
   exact .inl (hnl "script" (by decide))
 . have he' : env = callEnvC fd s.heap.objs.size 227 := he
   have hkk : ∀ y, env.kindOf y = fd.scope.names.lookup y := fun y => by rw [he']; rfl
   have EN := xf9 (q := true) (ps := ["script"]) (nm := nmL) (cn := cnL) (lp := [some 0, none, none, none, none]) (cp := [none, none, none, none]) (scope := fd.scope) (fn := []) (fc := []) (s₁ := sB) (as := [.stat (.ref l)])
    I0 (env := env) (by rw [he']; rfl) (by rw [he']; rfl) (by rw [he']; rfl) hkd x.toInCall.same x.toInCall.keep x.toInCall.ns
    (fun y hy => by
     obtain ⟨c, hc⟩ := mem_lookup (s.heap.objs.size + 1) y (hcl y hy)
     have hc' : env.cells.lookup y = some c := by rw [he']; exact hc
     refine ⟨c, hc', x.cell y c hc', ?_⟩
     have := x.above y c (mem_of_lookup hc')
     rw [he'] at this; exact this)
    (fun y _ z _ c h1 h2 => name_of_addr x.apart (mem_of_lookup h1) (mem_of_lookup h2)) (by decide +kernel)
    (fun y hy => by
     rw [show [(("script" : Str), Value.ref l)] = [("script" : Str)].zip [Value.ref l] from rfl, xg6 (by rw [hkk]; exact hnl y hy) _ (by simp) rfl]
     exact qo7 (as := [.stat (.ref l)]) (vs := [.ref l]) ⟨rfl, trivial⟩ _)
    (fun y hy => by
     rw [show [(("script" : Str), Value.ref l)] = [("script" : Str)].zip [Value.ref l] from rfl, xg7 (by rw [hkk, hnc y hy]; decide) _ (by simp) rfl]
     exact qo7 (as := [.stat (.ref l)]) (vs := [.ref l]) ⟨rfl, trivial⟩ _) (by decide +kernel) (by decide +kernel) (fun i y hy => by simp at hy) (fun z => nomatch z)
   obtain ⟨cel, stB, VB, eB, IB, hpre, hnew⟩ := EN
   have e3 : y4q (v1q [.stat (.ref l)] [none, none, none, none]) ⟨qv1, v1q [.stat (.ref l)] [some 0, none, none, none, none], []⟩ = .ok [3, 4, 5, 6] { stE l with cel := [] } := rfl
   rw [e3] at eB
   obtain ⟨rfl, rfl⟩ := z7q eB
   have hLn : g.U.get? s.heap.objs.size = none := by
    induction q : g.U.get? s.heap.objs.size with
    | none => rfl
    | some o => have := base _ _ q; rw [z0q s] at this; exact q6q this
   have IC : Inv g (cxL fd s.heap.objs.size) VB (stE l) sB := by
    rw [he'] at IB
    refine IB.more (fun b o e => x.toInCall.keep b o (base b o e)) (fun a ha => ?_) hLn (fun e he b hb => ?_)
    . by_cases m : a ∈ [207, 217, 195]
      . exact (t1 a m).2
      . have := hnew a ha m
        induction q : g.U.get? a with
        | none => rfl
        | some o => have z := base _ _ q; rw [this] at z; exact q6q z
    . rcases List.mem_cons.mp he with rfl | he
      . have : some s.heap.objs.size = some b := hb
        obtain rfl := w4z this
        exact hLn
      . cases he
   refine ⟨(nl.keeps base).keeps x.toInCall.keep, codeAny_func ?_⟩
   rw [he']
   refine w3z (h VB sB IC x.toInCall.keep fun a ha => ?_) (fun f s' q => ?_) (fun _ _ q => q.elim)
   . by_cases m : a ∈ [207, 217, 195]
     . exact .inl m
     . exact .inr (hnew a ha m)
   . induction f <;> exact q
section
variable {g : Gl} {prog : Program} {cx : Cx} {n : Nat}
theorem xx1 {A : Around} {V : List Addr} {st : St} {s : Shared} {l : Addr} {vs : List Value} {ns : List AV} {Q E : VP} {p1 p2 p3 p4 : Pos} (hA : AOk cx n A) (I : Inv g cx V st s) (hnm : RefE g prog cx n (.Name "script" p1) (locM 0)) (hloc : locM 0 st = .ok (.stat (.ref l)) st)
 (hl : ∃ o k, g.U.get? l = some o /\ o.cls = .type "list" /\ o.data = .seq vs.toArray k) (hlen : vs.length <= 63) (hr : ∀ V, reps g.ν V ns (vs.take 2)) (hlt : Nat.blt st.H.n z5q = true)
 (hQ : ∀ v ρ' s', repV g.ν ρ' (.ref st.H.n) v -> Inv g cx ρ' { st with H := st.H.push (.list ns) } s' -> Ext cx V s.heap ρ' s'.heap -> Q v s') :
 wpAny (model prog g.w) A (eval (.Subscript (.Name "script" p1) (.Slice none (some (.Constant (.int 2) 0 p2)) none p3) p4) cx.env) Q E s := by
 refine Subscript_ (qm3 hnm hA I hloc fun o V1 s1 hr1 I1 X1 => wpAny_Slice (w2z (qm3 (j0q (i := 2)) hA I1 rfl fun u V2 s2 hr2 I2 X2 => w2z ?_)))
 subst hr1
 obtain ⟨t, rfl⟩ := hr2
 rw [SI.val_lit]
 obtain ⟨ol, k, h1, h2, h3⟩ := hl
 have G := I2.grow (h' := s2.heap.push { cls := .type "slice", data := .fields #[.none, .int 2 t, .none] }) s2.toks (fun b o e => w6z _ e)
 have hl' : (s2.heap.push { cls := .type "slice", data := .fields #[.none, .int 2 t, .none] }).IsList l vs.toArray := ⟨ol, w6z _ (I2.base l ol h1), h2, k, h3⟩
 have hT : Shared.TypeIs { s2 with heap := s2.heap.push { cls := .type "slice", data := .fields #[.none, .int 2 t, .none] } } (.ref l) "list" := hl'.typeIs
 have road : ∀ i, ∃ ops, subscripted (.Slice none (some (.Constant (.int 2) 0 p2)) none p3) false (.ref l) i = operate ops (getItem (.ref l) i) := fun i => ⟨_, rfl⟩
 refine qa7 (road _) hT slot_list_getitem.lookup (wpAny_getItem_list_slice (lo := oInt none) (hi := oInt (some 2)) hl' (Heap.IsSliceOf.new _ _ _ _) .none (.int _ _) .none (fun e => nomatch e) ?_ ?_)
 . have e5 : (slicePick vs.toArray (oInt none) (oInt (some 2)) none) = (cut none (some 2) vs).toArray := by
    rw [slicePick_plain]
    have := zh1 none (some 2) vs
    simpa using this
   rw [e5, show cut none (some 2) vs = vs.take 2 from rfl]
   have N := qi1 (P := fun _ => True) (ao := .list ns) (o := { cls := .type "list", data := .seq (vs.take 2).toArray }) (fun V _ a => ⟨_, 0, hr _, rfl⟩) rfl A V2 st _ hA trivial G.1 (by unfold newM; rw [hlt]; intro z; exact qt8 z)
   obtain ⟨b', st', ρ', w1, w2, w3, w4⟩ := N
   unfold newM at w1
   rw [hlt] at w1
   obtain ⟨rfl, rfl⟩ := z7q w1
   exact hQ _ ρ' _ w2 w3 (((X1.trans X2).trans G.2).trans w4)
 . have h63 : (63 : Nat) <= sizeLine := by decide
   simp
   exact Nat.le_trans (by assumption) (by decide)
theorem jg3 {A : Around} {c : Stmt} {f : AM AF} {st st₁ : St} {V : List Addr} {s : Shared} {Q : Flow -> Shared -> Prop} {E : VP} {x : AF} (h : RefS g prog cx n c f) (hA : AOk cx n A) (I : Inv g cx V st s) (hv : f st = .ok x st₁)
 (hQ : ∀ fl ρ' s', repF g.ν ρ' x fl -> Inv g cx ρ' st₁ s' -> Ext cx V s.heap ρ' s'.heap -> Q fl s') : wpAny (model prog g.w) A (exec c cx.env) Q E s := by
 refine w3z (h A V st s hA trivial I (by rw [hv]; intro z; exact qt8 z)) ?_ ?_
 . rintro v s' ⟨b, st', ρ', e1, hr, I', X'⟩
   rw [hv] at e1; obtain ⟨rfl, rfl⟩ := z7q e1
   exact hQ v ρ' s' hr I' X'
 . rintro v s' ⟨k, st', ρ', e1, _⟩
   rw [hv] at e1; exact qj7 e1
end
noncomputable def xe4 : List AV := [litI 2400, litI 49, litI 17, litI 42, litI 1000, litI 81]
noncomputable def stF (ns : List AV) (l : Addr) : St := ⟨((((((qv1.push (.cell none)).push (.cell none)).push (.cell none)).push (.cell none)).push (.list ns)).push (.list xe4)).push (.list (ns ++ xe4)), [some (.stat (.ref l)), some (.ref 9), none, none, none], [3, 4, 5, 6]⟩
section
variable {g : Gl} {prog : Program}
theorem xy5 {n : Nat} {fd : FuncData} {L l : Addr} {A : Around} {V : List Addr} {s : Shared} {vs : List Value} {ns : List AV} {Q : Flow -> Shared -> Prop} {E : VP} {p1 p2 p3 p4 p5 p6 p7 p8 q1 q2 q3 q4 q5 q6 : Pos} (hA : AOk (cxL fd L) n A) (I : Inv g (cxL fd L) V (stE l) s)
 (hkd : fd.scope.kind = .function) (hnl : ∀ x ∈ nmL, fd.scope.names.lookup x = some .local)
 (hl : ∃ o k, g.U.get? l = some o /\ o.cls = .type "list" /\ o.data = .seq vs.toArray k) (hlen : vs.length <= 63) (hr : ∀ V, reps g.ν V ns (vs.take 2)) (h2 : ns.length <= 2)
 (hsw : swapsWith (.BinOp (.Subscript (.Name "script" p1) (.Slice none (some (.Constant (.int 2) 0 p2)) none p3) p4) .Add (.List [.Constant (.int 2400) 0 q1, .Constant (.int 49) 0 q2, .Constant (.int 17) 0 q3, .Constant (.int 42) 0 q4, .Constant (.int 1000) 0 q5, .Constant (.int 81) 0 q6] p5) p6) (some (.Name "numbers" p7)) p8.line (cxL fd L).env = pure false)
 (hst : ∀ e ∈ [q1, q2, q3, q4, q5, q6], True)
 (hQ : ∀ ρ' s', Inv g (cxL fd L) ρ' (stF ns l) s' -> Ext (cxL fd L) V s.heap ρ' s'.heap -> Q .next s') :
 wpAny (model prog g.w) A (exec (.Assign [.Name "numbers" p7] (.BinOp (.Subscript (.Name "script" p1) (.Slice none (some (.Constant (.int 2) 0 p2)) none p3) p4) .Add (.List [.Constant (.int 2400) 0 q1, .Constant (.int 49) 0 q2, .Constant (.int 17) 0 q3, .Constant (.int 42) 0 q4, .Constant (.int 1000) 0 q5, .Constant (.int 81) 0 q6] p5) p6) p8) (cxL fd L).env) Q E s := by
 have nmE : RefE g prog (cxL fd L) n (.Name "script" p1) (locM 0) := q0q (i := 0) rfl hkd (hnl "script" (by decide)) rfl
 have hlist : u9q [AM.ret (litI 2400), AM.ret (litI 49), AM.ret (litI 17), AM.ret (litI 42), AM.ret (litI 1000), AM.ret (litI 81)] { stE l with H := (stE l).H.push (.list ns) } = .ok (.ref 8) ⟨(((((qv1.push (.cell none)).push (.cell none)).push (.cell none)).push (.cell none)).push (.list ns)).push (.list xe4), [some (.stat (.ref l)), none, none, none, none], [3, 4, 5, 6]⟩ := by kernel_rfl
 have hstore : q7q 1 (.ref 9) ⟨((((((qv1.push (.cell none)).push (.cell none)).push (.cell none)).push (.cell none)).push (.list ns)).push (.list xe4)).push (.list (ns ++ xe4)), [some (.stat (.ref l)), none, none, none, none], [3, 4, 5, 6]⟩ = .ok () (stF ns l) := by kernel_rfl
 refine wpAny_Assign_Name (wpAny_BinOp (xx1 hA I nmE rfl hl hlen hr rfl fun v V1 s1 hv I1 X1 => ?_)) hsw
 refine qm3 (k0q (fs := [AM.ret (litI 2400), AM.ret (litI 49), AM.ret (litI 17), AM.ret (litI 42), AM.ret (litI 1000), AM.ret (litI 81)]) (q1q j0q rfl (q1q j0q rfl (q1q j0q rfl (q1q j0q rfl (q1q j0q rfl (q1q j0q rfl q4q))))))) hA I1 (a := .ref 8) (st₁ := ⟨(((((qv1.push (.cell none)).push (.cell none)).push (.cell none)).push (.cell none)).push (.list ns)).push (.list xe4), [some (.stat (.ref l)), none, none, none, none], [3, 4, 5, 6]⟩) hlist fun w V2 s2 hw I2 X2 => ?_
 have hadd : addM (.ref 7) (.ref 8) ⟨(((((qv1.push (.cell none)).push (.cell none)).push (.cell none)).push (.cell none)).push (.list ns)).push (.list xe4), [some (.stat (.ref l)), none, none, none, none], [3, 4, 5, 6]⟩ = .ok (.ref 9) ⟨((((((qv1.push (.cell none)).push (.cell none)).push (.cell none)).push (.cell none)).push (.list ns)).push (.list xe4)).push (.list (ns ++ xe4)), [some (.stat (.ref l)), none, none, none, none], [3, 4, 5, 6]⟩ := by
  rcases ns with _ | ⟨a, _ | ⟨b, _ | ⟨c, r⟩⟩⟩
  . kernel_rfl
  . kernel_rfl
  . kernel_rfl
  . simp at h2
 refine w3z (add_ok (.ref 7) (.ref 8) v w A V2 _ s2 hA ⟨hv.mono X2.pre, hw⟩ I2 (by rw [hadd]; intro z; exact qt8 z)) ?_ ?_
 . rintro x s3 ⟨b, st3, V3, e3, hx, I3, X3⟩
   rw [hadd] at e3
   obtain ⟨rfl, rfl⟩ := z7q e3
   refine w3z (q5q (g := g) (prog := prog) (n := n) (cx := cxL fd L) (x := "numbers") (i := 1) rfl (uniq (l := nmL) (by decide +kernel) rfl) hkd (hnl "numbers" (by decide)) (.ref 9) x A V3 _ s3 hA hx I3 (by rw [hstore]; intro z; exact qt8 z)) ?_ ?_
   . rintro _ s4 ⟨b, st4, V4, e4, _, I4, X4⟩
     rw [hstore] at e4
     obtain ⟨rfl, rfl⟩ := z7q e4
     exact hQ V4 s4 I4 (((X1.trans X2).trans X3).trans X4)
   . rintro y s4 ⟨k, st4, V4, e4, _⟩
     rw [hstore] at e4
     exact qj7 e4
 . rintro y s3 ⟨k, st3, V3, e3, _⟩
   rw [hadd] at e3
   exact qj7 e3
end
noncomputable def ji5 (mt : Bool -> Nat -> Int -> Option SI) : AM AF := (asgM (qm2 [((q8q [(locM 1)]).bind (qo1 mt)), (u9q [])]) (qd9 [(qc9 0), (qc9 1)]))
noncomputable def ji4 (mt : Bool -> Nat -> Int -> Option SI) : AM AF := ((((q8q [(celM 0)]).bind (one lenM)).bind qh7).bind fun src => forI false src (q7q 2) (seqM ((qe4 u4q (celM 1) [(bin2 (bin2 (bin2 (locM 1) (locM 2) subM) (AM.ret (.int (.lin 5 0 0))) (qc5 SI.fdiv)) (bin2 (locM 2) (AM.ret (.int (.lin 1 0 0))) addM) (qc5 (SI.fmod mt))), (bin2 (celM 0) (locM 2) subM)] (zj7 xq6)).bind fun _ => AM.ret .next)
 (AM.ret .next)) 200 0)
noncomputable def ji3 (mt : Bool -> Nat -> Int -> Option SI) : AM AF := (asgM (((celM 1).bind qa8).bind (v4q (.list []) 2 [] 200 false (q7q 0) (AM.ret true) (fun a => (((q8q [(locM 0)]).bind (qf5 mt)).bind qa8).bind fun src => match qh8 src with | true => qb5 false src (q7q 1) (AM.ret true) (qk3 (locM 1) a) 200 0 | false => AM.fail))) (q7q 3))
noncomputable def ji2 (mt : Bool -> Nat -> Int -> Option SI) : AM AF := (asgM ((((q8q [(celM 1)]).bind (one lenM)).bind qh7).bind (v4q (.list []) 1 [1] 200 false (q7q 0) (AM.ret true) (qk3 ((q8q [((((celM 0).bind fun a => (AM.ret .none).bind fun b => (bin2 (locM 0) (AM.ret (.int (.lin 1 0 0))) addM).bind fun c => qv2 a b c).bind qa8).bind (v4q (.list []) 1 [] 200 false (q7q 0) (AM.ret true) (qk3 ((q8q [((q8q [(locM 0)]).bind (qf5 mt))]).bind (one lenM)))))]).bind (one sumM))))) (qc9 2))
noncomputable def ji1 (mt : Bool -> Nat -> Int -> Option SI) : AM AF := (((u9q [((q8q [(locM 3)]).bind (one lenM)), (bin2 ((q8q [(locM 3)]).bind (one lenM)) (AM.ret (.int (.lin 1 0 0))) (qc5 SI.sub)), (bin2 ((q8q [(locM 3)]).bind (one lenM)) (AM.ret (.int (.lin 2 0 0))) (qc5 SI.fdiv)), (bin2 (celM 2) (AM.ret (.int (.lin 1 0 0))) subM)]).bind qa8).bind fun src => forI false src (qc9 3) (seqM (ifM (((q8q [((locM 3).bind fun a => (AM.ret .none).bind fun b => (celM 3).bind fun c => qv2 a b c)]).bind (ql4 mt)).bind fun a => ((((q8q [(celM 1)]).bind (one lenM)).bind qh7).bind (v4q (.list []) 1 [2, 3, 1] 200 false (q7q 0) ((bin2 (celM 0) (locM 0) subM).bind fun a => (celM 1).bind fun b => ((ordM fun a b => decide (a <= b)) a b).bind x6q) (qk3 (bin2 (celM 2) (locM 0) subM)))).bind fun b => ((eqM true) a b).bind x6q) (seqM (retM (AM.ret (.bool false)))
 (AM.ret .next)) (AM.ret .next))
 (AM.ret .next)) 200 0)
noncomputable def ji0 (mt : Bool -> Nat -> Int -> Option SI) : AM AF := (asgM (((celM 1).bind qa8).bind (v4q (.list []) 1 [0] 200 false (q7q 0) (AM.ret true) (qk3 (((bin2 (locM 0) (AM.ret (.int (.lin 0 0 0))) subM).bind fun a => (bin2 (bin2 (celM 0) (AM.ret (.int (.lin 0 0 0))) subM) (AM.ret (.int (.lin 0 0 0))) subM).bind fun b => ((eqM false) a b).bind x6q).bind fun b => match b with | true => (u9q [(bin2 (locM 0) (AM.ret (.int (.lin 0 0 0))) subM), (u9q [(bin2 (bin2 (celM 0) (AM.ret (.int (.lin (-1) 0 0))) subM) (AM.ret (.int (.lin 0 0 0))) subM)])]) | false => (locM 0))))) (q7q 4))
noncomputable def jh9 (mt : Bool -> Nat -> Int -> Option SI) : AM AV := ((q8q [(locM 3)]).bind (ql4 mt))
noncomputable def zl4 (mt : Bool -> Nat -> Int -> Option SI) : AM AF := retM (((q8q [jh9 mt]).bind (qi3 mt)).bind fun a => (x6q a).bind fun b => match b with | true => ((q8q [(locM 4)]).bind (qi3 mt)) | false => AM.ret a)
noncomputable def zu4 (mt : Bool -> Nat -> Int -> Option SI) : AM AF := (seqM (ji5 mt) (seqM (ji4 mt) (seqM (ji3 mt) (seqM (ji2 mt) (seqM (ji1 mt) (seqM (ji0 mt) (seqM (zl4 mt) (AM.ret .next))))))))
noncomputable def jf8 (g : Gl) (fd : FuncData) (c : Stmt) : Prop := ∀ (n : Nat) (L l : Addr) (A : Around) (V : List Addr) (s : Shared) (vs : List Value) (ns : List AV) (Q : Flow -> Shared -> Prop) (E : VP), AOk (cxL fd L) n A -> Inv g (cxL fd L) V (stE l) s ->
 (∃ o k, g.U.get? l = some o /\ o.cls = .type "list" /\ o.data = .seq vs.toArray k) -> vs.length <= 63 -> (∀ V, reps g.ν V ns (vs.take 2)) -> ns.length <= 2 ->
 (∀ ρ' s', Inv g (cxL fd L) ρ' (stF ns l) s' -> Ext (cxL fd L) V s.heap ρ' s'.heap -> Q .next s') -> wpAny (model PySem.Challenge.rw_ik0059_01.prog g.w) A (exec c (cxL fd L).env) Q E s
noncomputable def zs7 (g : Gl) (fd : FuncData) (c : Stmt) : Prop := ∀ (L : Addr) (A : Around) (V : List Addr) (st : St) (s : Shared) (ok : Option KD) (Q : Flow -> Shared -> Prop) (E : VP), AOk (cxL fd L) 500 A -> Inv g (cxL fd L) V st s -> KIn g V s.heap ok ->
 zf9 (seqM (zl4 g.mt) (AM.ret .next) st) = true -> (∀ ρ' st' s' kd, zl4 g.mt st = .ok (.ret (.bool true)) st' -> Inv g (cxL fd L) ρ' st' s' -> KIn g ρ' s'.heap (some kd) -> Q (.ret (.bool true)) s') -> wpAny (model PySem.Challenge.rw_ik0059_01.prog g.w) A (exec c (cxL fd L).env) Q E s
theorem R222 {g : Gl} {prog : Program} (S : Sit g) : qf2 g prog (.ref 222) := w8q (S.X 222 _ (zs2 _)) rfl
theorem zv1 {g : Gl} (S : Sit g) {fd : FuncData} {p1 p2 p3 p4 p5 p6 p7 p8 p9 p10 : Pos} (hR : ∀ (L : Addr) (p : Pos), RefE g PySem.Challenge.rw_ik0059_01.prog (cxL fd L) 500 (.Name "_law_right" p) (AM.ret (.stat (.ref 222))))
 (hx : ∀ L : Addr, RefE g PySem.Challenge.rw_ik0059_01.prog (cxL fd L) 500 (.Call (.Name "_law_read" p2) [.Name "octets" p3] [] p4) (jh9 g.mt)) (hy : ∀ L : Addr, RefE g PySem.Challenge.rw_ik0059_01.prog (cxL fd L) 500 (.Name "turned" p7) (locM 4)) :
 zs7 g fd (.Return (some (.BoolOp .And [.Call (.Name "_law_right" p1) [.Call (.Name "_law_read" p2) [.Name "octets" p3] [] p4] [] p5, .Call (.Name "_law_right" p6) [.Name "turned" p7] [] p8] p9)) p10) := by
 intro L A V st s ok Q E hA I K hb hQ
 induction e0 : zl4 g.mt st with
 | exc k st1 => unfold seqM AM.bind at hb; rw [e0] at hb; exact j7q hb
 | bad => unfold seqM AM.bind at hb; rw [e0] at hb; exact j7q hb
 | ok x st1 =>
  obtain ⟨a, st2, e1, e2⟩ := v6q (show (_ : AM AV).bind _ st = .ok x st1 from e0)
  have e2' : Out.ok (AF.ret a) st2 = .ok x st1 := e2
  cases e2'
  obtain ⟨b, st3, e3, e4⟩ := v6q e1
  obtain ⟨as1, st4, e5, e6⟩ := v6q e3
  have hv := (qr1 e6).2
  obtain ⟨_, _, _, _, _, _, _, _, rfl, _⟩ := hv
  obtain ⟨t, st5, e7, e8⟩ := v6q e4
  have e7' : Out.ok (β := Bool) true st3 = .ok t st5 := e7
  cases e7'
  obtain ⟨as2, st6, e9, e10⟩ := v6q e8
  have hv := (qr1 e10).2
  obtain ⟨_, _, _, _, _, _, _, _, rfl, _⟩ := hv
  refine wpAny_Return_some (wpAny_And2 (xg3 (hR L p1) (R222 S) ⟨hx L, rfl, q4q⟩ hA I (by rw [e5]; intro z; exact qt8 z) (fun as vs st' V1 s1 q1 q2 I1 X1 => ?_) (fun v s' z => by
   obtain ⟨k, _, _, z, _⟩ := z
   rw [e5] at z; exact qj7 z)))
  rw [e5] at q1
  obtain ⟨rfl, rfl⟩ := z7q q1
  refine xa7 S hA (by decide) rfl q2 I1 (K.ext I X1) e6 fun kd V2 s2 I2 K2 => ?_
  refine wpAny_truthy_bool ?_
  rw [if_pos rfl]
  refine xg3 (hR L p6) (R222 S) ⟨hy L, rfl, q4q⟩ hA I2 (by rw [e9]; intro z; exact qt8 z) (fun as vs st' V3 s3 q1 q3 I3 X3 => ?_) (fun v s' z => by
   obtain ⟨k, _, _, z, _⟩ := z
   rw [e9] at z; exact qj7 z)
  rw [e9] at q1
  obtain ⟨rfl, rfl⟩ := z7q q1
  exact xa7 S hA (by decide) rfl q3 I3 (K2.ext I2 X3) e10 fun kd V4 s4 I4 K4 => hQ V4 _ s4 kd e0 I4 K4
structure LawIs (g : Gl) (o : Obj) (fd : FuncData) (body : List Stmt) : Prop where
 at' : (KG g.w.params).lookup 227 = some o
 data : o.data = .func fd
 body : fd.body = .stmts body
 clo : fd.closure = []
 cd : g.U.CodeRec fd.code fd.qualname
 bind : ∀ (l : Value) (s : Shared), BindsTo s fd ⟨[l], []⟩ [("script", l)]
 nl : ∀ x ∈ nmL, fd.scope.names.lookup x = some .local
 nc : ∀ x ∈ cnL, fd.scope.names.lookup x = some .cell
 cl : ∀ x ∈ cnL, x ∈ (cellsFrom 0 fd.scope.names []).map (·.1)
 co : fd.scope.isCoroutine = false
 gen : fd.scope.isGenerator = false
 kd : fd.scope.kind = .function
theorem zm3 {g : Gl} (S : Sit g) : ∃ o fd c0 c1 c2 c3 c4 c5 c6 cL, LawIs g o fd [c0, c1, c2, c3, c4, c5, c6, cL] /\ jf8 g fd c0 /\ (∀ L : Addr, RefS g PySem.Challenge.rw_ik0059_01.prog (cxL fd L) 500 c1 (ji5 g.mt)) /\ (∀ L : Addr, RefS g PySem.Challenge.rw_ik0059_01.prog (cxL fd L) 500 c2 (ji4 g.mt)) /\ (∀ L : Addr, RefS g PySem.Challenge.rw_ik0059_01.prog (cxL fd L) 500 c3 (ji3 g.mt)) /\ (∀ L : Addr, RefS g PySem.Challenge.rw_ik0059_01.prog (cxL fd L) 500 c4 (ji2 g.mt)) /\ (∀ L : Addr, RefS g PySem.Challenge.rw_ik0059_01.prog (cxL fd L) 500 c5 (ji1 g.mt)) /\ (∀ L : Addr, RefS g PySem.Challenge.rw_ik0059_01.prog (cxL fd L) 500 c6 (ji0 g.mt)) /\ zs7 g fd cL := by
 refine ⟨_, _, _, _, _, _, _, _, _, _, ⟨rfl, rfl, rfl, rfl, j5q S rfl rfl rfl rfl, fun l s => .of_eq rfl, by decide +kernel, by decide +kernel, by decide +kernel, rfl, rfl, rfl⟩, ?_, fun L => ?_, fun L => ?_, fun L => ?_, fun L => ?_, fun L => ?_, fun L => ?_, ?_⟩
 . intro n L l A V s vs ns Q E hA I hl hlen hr h2 hQ
   exact xy5 hA I rfl (by decide +kernel) hl hlen hr h2 (by kernel_rfl) (fun _ _ => trivial) hQ
 . exact (xw5 rfl rfl (qo5 (q1q (w2q (xn5 S) (xn3 S) (by decide) rfl (k9q S.G (xe0 S) rfl rfl rfl rfl) (q1q (q0q (i := 1) rfl rfl rfl rfl) rfl q4q)) rfl (q1q (k0q q4q) rfl q4q))) (qd6 rfl (j6q (x2q (u6q (j := 0) rfl rfl rfl)) rfl (j6q (x2q (u6q (j := 1) rfl rfl rfl)) rfl qi8))))
 . exact (qh2 200 false rfl (fun _ => rfl) (fun z => nomatch z) (qy4 (q9q S.G (qp1 S) rfl (by decide +kernel) rfl rfl rfl rfl rfl) (q1q (y3q (qd2 S.sm) (q9q S.G (qd0 S) rfl (by decide +kernel) rfl rfl rfl rfl rfl) (q1q (x4q (j := 0) rfl rfl rfl rfl) rfl q4q)) rfl q4q)) (x2q (q5q (i := 2) rfl (uniq (l := ["script", "numbers", "k", "octets", "turned"]) (by decide +kernel) rfl) rfl rfl)) (q2q (u7q rfl rfl (qe9 (qe5 PySem.F.slot_list_insert PySem.F.type_list_insert) zf7 (x4q (j := 1) rfl rfl rfl rfl) (q1q (qf0 (qf0 (k3q (fun _ _ => ⟨_, rfl⟩) (q0q (i := 1) rfl rfl rfl rfl) (q0q (i := 2) rfl rfl rfl rfl)) j0q fdiv_ok) (qf0 (q0q (i := 2) rfl rfl rfl rfl) j0q add_ok) (fmod_ok S.G)) rfl (q1q (k3q (fun _ _ => ⟨_, rfl⟩) (x4q (j := 0) rfl rfl rfl rfl) (q0q (i := 2) rfl rfl rfl rfl)) rfl q4q)) _ rfl))
    x1q))
 . exact (xm8 rfl (xa3 (nm := ["cell", "octet"]) (cn := []) (cj := []) (tup := false) (tup2 := false) ⟨_, _, _, rfl, rfl, rfl⟩ rfl 200 (fun _ => rfl) (closureFor_none (by decide +kernel)) rfl (by decide +kernel) (by decide +kernel) .nil (fun z => nomatch z) (fun _ => (x2q (q5q (i := 0) rfl (uniq (l := ["cell", "octet"]) (by decide +kernel) rfl) rfl rfl))) (fun _ => v7q) (fun _ _ => rfl) (fun z => nomatch z) (fun _ => (qf3 S.sm (w2q (qq8 S) (qq7 S) (by decide) rfl (k9q S.G (qm5 S) rfl rfl rfl rfl) (q1q (q0q (i := 0) rfl rfl rfl rfl) rfl q4q)))) (fun _ => (x2q (q5q (i := 1) rfl (uniq (l := ["cell", "octet"]) (by decide +kernel) rfl) rfl rfl))) (fun _ => v7q) (fun _ => (q0q (i := 1) rfl rfl rfl rfl))) ⟨_, _, _, rfl, rfl, rfl⟩ rfl 200 (qf3 S.sm (x4q (j := 1) rfl rfl rfl rfl)) (q5q (i := 3) rfl (uniq (l := ["script", "numbers", "k", "octets", "turned"]) (by decide +kernel) rfl) rfl rfl))
 . exact (u8q rfl (j9q (j8q (nm := ["k"]) (cn := ["cells"]) (cj := [1]) (tup := false) (fun _ => rfl) (z3q rfl) rfl (by decide +kernel) (by decide +kernel) (.cons (.succ .zero) (by rfl) .nil) (fun z => nomatch z) (fun _ => (x2q (q5q (i := 0) rfl (uniq (l := ["k"]) (by decide +kernel) rfl) rfl rfl))) (fun _ => v7q) (fun _ => (y3q (zr0 rfl) (q9q S.G (zr5 S) rfl (by decide +kernel) rfl rfl rfl rfl rfl) (q1q (j9q (j8q (nm := ["cell"]) (cn := []) (cj := []) (tup := false) (fun _ => rfl) (closureFor_none (by decide +kernel)) rfl (by decide +kernel) (by decide +kernel) .nil (fun z => nomatch z) (fun _ => (x2q (q5q (i := 0) rfl (uniq (l := ["cell"]) (by decide +kernel) rfl) rfl rfl))) (fun _ => v7q) (fun _ => (y3q (qd2 S.sm) (q9q S.G (qd0 S) rfl (by decide +kernel) rfl rfl rfl rfl rfl) (q1q (w2q (qq8 S) (qq7 S) (by decide) rfl (k9q S.G (qm5 S) rfl rfl rfl rfl) (q1q (q0q (i := 0) rfl rfl rfl rfl) rfl q4q)) rfl q4q)))) ⟨_, _, _, rfl, rfl, rfl⟩ rfl 200 (qf3 S.sm (qy7 (x4q (j := 0) rfl rfl rfl rfl) xn1 (xn0 (qf0 (q0q (i := 0) rfl rfl rfl rfl) j0q add_ok))))) rfl q4q)))) ⟨_, _, _, rfl, rfl, rfl⟩ rfl 200 (qy4 (q9q S.G (qp1 S) rfl (by decide +kernel) rfl rfl rfl rfl rfl) (q1q (y3q (qd2 S.sm) (q9q S.G (qd0 S) rfl (by decide +kernel) rfl rfl rfl rfl rfl) (q1q (x4q (j := 1) rfl rfl rfl rfl) rfl q4q)) rfl q4q))) (u6q (j := 2) rfl rfl rfl))
 . exact (qh2 200 false rfl (fun _ => rfl) (fun z => nomatch z) (qf3 S.sm (k0q (q1q (y3q (qd2 S.sm) (q9q S.G (qd0 S) rfl (by decide +kernel) rfl rfl rfl rfl rfl) (q1q (q0q (i := 3) rfl rfl rfl rfl) rfl q4q)) rfl (q1q (qf0 (y3q (qd2 S.sm) (q9q S.G (qd0 S) rfl (by decide +kernel) rfl rfl rfl rfl rfl) (q1q (q0q (i := 3) rfl rfl rfl rfl) rfl q4q)) j0q sub_ok) rfl (q1q (qf0 (y3q (qd2 S.sm) (q9q S.G (qd0 S) rfl (by decide +kernel) rfl rfl rfl rfl rfl) (q1q (q0q (i := 3) rfl rfl rfl rfl) rfl q4q)) j0q fdiv_ok) rfl (q1q (k3q (fun _ _ => ⟨_, rfl⟩) (x4q (j := 2) rfl rfl rfl rfl) j0q) rfl q4q)))))) (x2q (u6q (j := 3) rfl rfl rfl)) (q2q (S_if (v5q rfl (w2q (qy5 S) (qy3 S) (by decide) rfl (k9q S.G (qt1 S) rfl rfl rfl rfl) (q1q (qy7 (q0q (i := 3) rfl rfl rfl rfl) xn1 (xn0 (x4q (j := 3) rfl rfl rfl rfl))) rfl q4q)) (j9q (j8q (nm := ["k"]) (cn := ["ends", "cut", "cells"]) (cj := [2, 3, 1]) (tup := false) (fun _ => rfl) (z3q rfl) rfl (by decide +kernel) (by decide +kernel) (.cons (.succ (.succ .zero)) (by rfl) (.cons (.succ (.succ (.succ .zero))) (by rfl) (.cons (.succ .zero) (by rfl) .nil))) (fun z => nomatch z) (fun _ => (x2q (q5q (i := 0) rfl (uniq (l := ["k"]) (by decide +kernel) rfl) rfl rfl))) (fun _ => (zi8 (v5q rfl (k3q (fun _ _ => ⟨_, rfl⟩) (x4q (j := 0) rfl rfl rfl rfl) (q0q (i := 0) rfl rfl rfl rfl)) (x4q (j := 1) rfl rfl rfl rfl) le_ok x0q))) (fun _ => (k3q (fun _ _ => ⟨_, rfl⟩) (x4q (j := 2) rfl rfl rfl rfl) (q0q (i := 0) rfl rfl rfl rfl)))) ⟨_, _, _, rfl, rfl, rfl⟩ rfl 200 (qy4 (q9q S.G (qp1 S) rfl (by decide +kernel) rfl rfl rfl rfl rfl) (q1q (y3q (qd2 S.sm) (q9q S.G (qd0 S) rfl (by decide +kernel) rfl rfl rfl rfl rfl) (q1q (x4q (j := 1) rfl rfl rfl rfl) rfl q4q)) rfl q4q))) zu3 x0q) (q2q (qi9 zj4)
    x1q) x1q)
    x1q))
 . exact (xm8 rfl (j8q (nm := ["cell"]) (cn := ["drawn"]) (cj := [0]) (tup := false) (fun _ => rfl) (z3q rfl) rfl (by decide +kernel) (by decide +kernel) (.cons .zero (by rfl) .nil) (fun z => nomatch z) (fun _ => (x2q (q5q (i := 0) rfl (uniq (l := ["cell"]) (by decide +kernel) rfl) rfl rfl))) (fun _ => v7q) (fun _ => (qo6 (v5q rfl (k3q (fun _ _ => ⟨_, rfl⟩) (q0q (i := 0) rfl rfl rfl rfl) j0q) (k3q (fun _ _ => ⟨_, rfl⟩) (k3q (fun _ _ => ⟨_, rfl⟩) (x4q (j := 0) rfl rfl rfl rfl) j0q) j0q) xl5 x0q) (k0q (q1q (k3q (fun _ _ => ⟨_, rfl⟩) (q0q (i := 0) rfl rfl rfl rfl) j0q) rfl (q1q (k0q (q1q (k3q (fun _ _ => ⟨_, rfl⟩) (k3q (fun _ _ => ⟨_, rfl⟩) (x4q (j := 0) rfl rfl rfl rfl) jn1) j0q) rfl q4q)) rfl q4q))) (q0q (i := 0) rfl rfl rfl rfl)))) ⟨_, _, _, rfl, rfl, rfl⟩ rfl 200 (qf3 S.sm (x4q (j := 1) rfl rfl rfl rfl)) (q5q (i := 4) rfl (uniq (l := ["script", "numbers", "k", "octets", "turned"]) (by decide +kernel) rfl) rfl rfl))
 . exact zv1 S (fun L p => k9q S.G (xd9 S) rfl rfl rfl rfl) (fun L => (w2q (qy5 S) (qy3 S) (by decide) rfl (k9q S.G (qt1 S) rfl rfl rfl rfl) (q1q (q0q (i := 3) rfl rfl rfl rfl) rfl q4q))) (fun L => (q0q (i := 4) rfl rfl rfl rfl))
noncomputable def zf1 (o : Option AO) : Bool := match o with
 | some (.tab _) => true
 | _ => false
noncomputable def qx1 (st : St) : Bool := zf1 (st.H.t.get 0) && (zf1 (st.H.t.get 1) && zf1 (st.H.t.get 2))
noncomputable def qi6 (o : Out AF) : Bool := match o with
 | .ok (.ret (.bool true)) st => qx1 st
 | _ => false
set_option tactic.hygienic true in
theorem xx8 {o : Option AO} (h : zf1 o = true) : ∃ ps, o = some (.tab ps) := by
 rcases o with _ | o <;> try exact j7q h
 cases o <;> first | exact ⟨_, rfl⟩ | exact j7q h
set_option tactic.hygienic true in
theorem qk2 {v : AV} {st : St} (h : qi6 (.ok (.ret v) st) = true) : v = .bool true /\ qx1 st = true := by
 cases v <;> try exact j7q h
 rename_i b
 cases b
 . exact j7q h
 . exact ⟨rfl, h⟩
set_option tactic.hygienic true in
theorem xy3 {o : Out AF} (h : qi6 o = true) : zf9 o = true := by
 cases o <;> try exact j7q h
 rename_i x st
 cases x <;> try exact j7q h
 rw [(qk2 h).1]; rfl
theorem zr2 {f f' : AM AF} {st st1 : St} {x : AF} (e : f st = .ok x st1) : seqM f f' st = (AF.rec (motive := fun _ => AM AF) f' (AM.ret .brk) (AM.ret .cont) (fun v => AM.ret (.ret v)) x) st1 := by
 unfold seqM AM.bind
 rw [e]
section
variable {g : Gl} {prog : Program} {cx : Cx} {n : Nat} {A : Around} {V : List Addr} {st : St} {s : Shared} {ok : Option KD} {Q : Flow -> Shared -> Prop} {E : VP}
theorem qs2 {c : Stmt} {r : List Stmt} {f f' : AM AF} (h : RefS g prog cx n c f) (hA : AOk cx n A) (I : Inv g cx V st s) (K : KIn g V s.heap ok) (hb : qi6 (seqM f f' st) = true)
 (hQ : ∀ ρ' st' s' ok', qx1 st' = true -> Inv g cx ρ' st' s' -> KIn g ρ' s'.heap ok' -> Q (.ret (.bool true)) s')
 (hn : ∀ ρ' st' s', Inv g cx ρ' st' s' -> KIn g ρ' s'.heap ok -> qi6 (f' st') = true -> wpAny (model prog g.w) A (execs r cx.env) Q E s') :
 wpAny (model prog g.w) A (execs (c :: r) cx.env) Q E s := by
 induction e : f st with
 | bad => unfold seqM AM.bind at hb; rw [e] at hb; exact j7q hb
 | exc k st1 => unfold seqM AM.bind at hb; rw [e] at hb; exact j7q hb
 | ok x st1 =>
  rw [zr2 e] at hb
  refine wpAny_execs_cons (jg3 h hA I e fun fl ρ' s' hr I' X' => ?_)
  have K' := K.ext I X'
  induction x with
  | next => subst hr; exact hn ρ' st1 s' I' K' hb
  | brk => exact j7q hb
  | cont => exact j7q hb
  | ret v =>
   obtain ⟨u, rfl, hv⟩ := hr
   obtain ⟨rfl, h2⟩ := qk2 hb
   subst hv
   exact hQ ρ' st1 s' ok h2 I' K'
end
theorem zv0 {g : Gl} (S : Sit g) {s : Shared} {l : Addr} {vs : List Value} {ns : List AV} {mb : Str -> Option Value} {Q E : VP}
 (base : ∀ b o, g.U.get? b = some o -> s.heap.get? b = some o) (hns : s.heap.Ns builtinsNs mb) (t1 : ∀ a ∈ [207, 217, 195], s.heap.get? a = some (tabObj #[]) /\ g.U.get? a = none) (t37 : s.heap.get? 37 = some (tabObj #[])) (z37 : g.U.get? 37 = none)
 (hg : s.gens = #[]) (hd0 : s.drawn = g.dO) (hos : s.os = g.osO) (hl : ∃ o k, g.U.get? l = some o /\ o.cls = .type "list" /\ o.data = .seq vs.toArray k) (hlen : vs.length <= 63) (hr : ∀ V, reps g.ν V ns (vs.take 2)) (h2 : ns.length <= 2)
 (hev : ∀ l, qi6 (zu4 g.mt (stF ns l)) = true) (hQ : ∀ cx ρ' st' s' ok', qx1 st' = true -> Inv g cx ρ' st' s' -> KIn g ρ' s'.heap ok' -> Q (.bool true) s') :
 wpAny (model PySem.Challenge.rw_ik0059_01.prog g.w) callerA (call (.ref 227) [.ref l]) Q E s := by
 obtain ⟨o, fd, c0, c1, c2, c3, c4, c5, c6, cL, W, F0, R1, R2, R3, R4, R5, R6, FL⟩ := zm3 S
 refine ze6 (S.X 227 o W.at') W.data W.cd W.body W.clo (W.bind (.ref l) s) W.nl W.nc W.cl W.co W.gen W.kd S.G.nl base hns S.tabs t1 hg hd0 hos fun V sB I hk hV => ?_
 have hA : AOk (cxL fd s.heap.objs.size) 500 (callerA.deeper (callEnvC fd s.heap.objs.size 227)) := ⟨rfl, (show (302 : Nat) + 500 <= 900 by decide), (show (7 : Nat) + 10 * 500 <= 9000 by decide), fun _ => rfl⟩
 have K : KIn g V sB.heap none := by
  refine ⟨hk _ _ t37, z37, fun h => ?_, fun k e => by cases e⟩
  rcases hV 37 h with h | h
  . exact absurd h (by decide)
  . rw [t37] at h; exact k2q h
 refine wpAny_execs_cons (F0 500 _ l _ V sB vs ns _ _ hA I hl hlen hr h2 fun V1 s3 I1 X1 => ?_)
 have K1 := K.ext I X1
 have hv := hev l
 refine qs2 (R1 _) hA I1 K1 hv (fun ρ' st' s' ok' => hQ _ ρ' st' s' ok') fun V2 st2 s4 I2 K2 hv => ?_
 refine qs2 (R2 _) hA I2 K2 hv (fun ρ' st' s' ok' => hQ _ ρ' st' s' ok') fun V3 st3 s5 I3 K3 hv => ?_
 refine qs2 (R3 _) hA I3 K3 hv (fun ρ' st' s' ok' => hQ _ ρ' st' s' ok') fun V4 st4 s6 I4 K4 hv => ?_
 refine qs2 (R4 _) hA I4 K4 hv (fun ρ' st' s' ok' => hQ _ ρ' st' s' ok') fun V5 st5 s7 I5 K5 hv => ?_
 refine qs2 (R5 _) hA I5 K5 hv (fun ρ' st' s' ok' => hQ _ ρ' st' s' ok') fun V6 st6 s8 I6 K6 hv => ?_
 refine qs2 (R6 _) hA I6 K6 hv (fun ρ' st' s' ok' => hQ _ ρ' st' s' ok') fun V7 st7 s9 I7 K7 hv => ?_
 refine wpAny_execs_cons (FL _ _ V7 st7 s9 none _ _ hA I7 K7 (xy3 hv) fun V8 st8 s10 kd e I8 K8 => ?_)
 rw [zr2 e] at hv
 exact hQ _ V8 st8 s10 _ (qk2 hv).2 I8 K8
theorem qr5 {h : Heap} {l : List Addr} {a : Addr} {m : Str -> Option Value} (N : h.Ns a m) (ha : a ∉ l) : (y6q h l).Ns a m := by
 obtain ⟨o, es, ep, h1, r⟩ := N
 exact ⟨o, es, ep, by rw [z1q, if_neg ha]; exact h1, r⟩
theorem qk4 {h : Heap} {l : List Addr} {c P : Addr} (C : CodeHd h c P) (ha : c ∉ l) : CodeHd (y6q h l) c P := by
 obtain ⟨o, vs, file, tf, flags, tg, inF, text, tt, e, r⟩ := C
 exact ⟨o, vs, file, tf, flags, tg, inF, text, tt, by rw [z1q, if_neg ha]; exact e, r⟩
theorem xe3 {p : Nat -> Bool} : ∀ {K : Frag} {a : Addr} {o : Obj}, (K.filter fun q => p q.1).lookup a = some o -> K.lookup a = some o /\ p a = true := by
 intro K
 induction K with
 | nil => intro a o h; exact q6q h
 | cons e K ih =>
  obtain ⟨b, ob⟩ := e
  intro a o h
  rw [List.filter_cons] at h
  by_cases q : p b = true
  . have h' : List.lookup a ((b, ob) :: K.filter fun q => p q.1) = some o := by
     rw [if_pos q] at h; exact h
    rw [List.lookup_cons] at h' ⊢
    induction e : a == b with
    | true =>
     rw [e] at h'
     have : a = b := by simpa using e
     subst this
     exact ⟨h', q⟩
    | false =>
     rw [e] at h'
     exact ih h'
  . have h' : List.lookup a (K.filter fun q => p q.1) = some o := by
     rw [if_neg q] at h; exact h
    obtain ⟨h1, h2⟩ := ih h'
    refine ⟨?_, h2⟩
    rw [List.lookup_cons]
    induction e : a == b with
    | true =>
     have : a = b := by simpa using e
     subst this
     exact absurd h2 q
    | false => exact h1
noncomputable def qc4 : List Addr := [207, 37, 217, 195]
noncomputable def glOf (w : World) (s : Shared) (mg mb : Str -> Option Value) (ν : Vl) (mt : Bool -> Nat -> Int -> Option SI) : Gl := ⟨w, y6q s.heap qc4, mg, mb, ν, s.drawn, s.os, mt, jk1 w.params, [207, 217, 195]⟩
section
variable {w : World} {s : Shared} {mg mb : Str -> Option Value} {ν : Vl} {mt : Bool -> Nat -> Int -> Option SI}
theorem xs2 (KX : (KF w.params).In s.heap) : ∀ a ∈ qc4, s.heap.get? a = some (tabObj #[]) := by
 have h1 : (KF w.params).lookup 207 = some (tabObj #[]) := by kernel_rfl
 have h2 : (KF w.params).lookup 37 = some (tabObj #[]) := by kernel_rfl
 have h3 : (KF w.params).lookup 217 = some (tabObj #[]) := by kernel_rfl
 have h4 : (KF w.params).lookup 195 = some (tabObj #[]) := by kernel_rfl
 intro a ha
 simp only [qc4, List.mem_cons, List.not_mem_nil, or_false] at ha
 rcases ha with rfl | rfl | rfl | rfl
 . exact KX _ _ h1
 . exact KX _ _ h2
 . exact KX _ _ h3
 . exact KX _ _ h4
theorem kg_in (KX : (KF w.params).In s.heap) : (KG w.params).In (y6q s.heap qc4) := by
 intro a o h
 obtain ⟨h1, h2⟩ := xe3 (p := jh6) h
 have : a ∉ qc4 := by
  intro m
  simp only [qc4, List.mem_cons, List.not_mem_nil, or_false] at m
  rcases m with rfl | rfl | rfl | rfl <;> exact absurd h2 (by decide)
 rw [z1q, if_neg this]
 exact KX a o h1
theorem xg1 {c P : Addr} {o : Obj} {vs : Array Value} {file : Str} {tf : Tok} {flags : Int} {tg : Tok} {inF : Bool} {text : Int} {tt : Tok} (KX : (KF w.params).In s.heap) (h : (KF w.params).lookup c = some o) (h1 : o.cls = .type "code") (h2 : o.data = .fields vs)
 (h3 : vs[11]? = some (.ref P)) (h4 : vs.getD 11 .none = .ref P) (h5 : vs.getD 18 .none = .str file tf) (h6 : vs.getD 7 .none = .int flags tg) (h7 : vs.getD 9 .none = .bool inF) (h8 : vs.getD 10 .none = .int text tt) (h9 : c ≠ P) : CodeHd s.heap c P :=
 ⟨o, vs, file, tf, flags, tg, inF, text, tt, KX _ _ h, h1, h2, h3, h4, h5, h6, h7, h8, h9⟩
theorem jl6 (KX : (KF w.params).In s.heap) : CodeHd s.heap 209 207 := xg1 KX (by rfl) (by rfl) (by rfl) (by rfl) (by rfl) (by rfl) (by rfl) (by rfl) (by rfl) (by decide)
theorem jl5 (KX : (KF w.params).In s.heap) : CodeHd s.heap 221 217 := xg1 KX (by rfl) (by rfl) (by rfl) (by rfl) (by rfl) (by rfl) (by rfl) (by rfl) (by rfl) (by decide)
theorem jl7 (KX : (KF w.params).In s.heap) : CodeHd s.heap 199 195 := xg1 KX (by rfl) (by rfl) (by rfl) (by rfl) (by rfl) (by rfl) (by rfl) (by rfl) (by rfl) (by decide)
theorem cd41' (KX : (KF w.params).In s.heap) : CodeHd s.heap 41 37 := xg1 KX (by rfl) (by rfl) (by rfl) (by rfl) (by rfl) (by rfl) (by rfl) (by rfl) (by rfl) (by decide)
theorem jg2 (KX : (KF w.params).In s.heap) : ∃ o, (y6q s.heap qc4).get? sysModules = some o := by
 have h1 : ∃ o, (KF w.params).lookup 1 = some o := ⟨_, by rfl⟩
 obtain ⟨o, h1⟩ := h1
 exact ⟨o, by rw [z1q, if_neg (show sysModules ∉ qc4 by decide)]; exact KX 1 o h1⟩
theorem jg5 {p : Program} {loose : List Str} {mean : ExcName -> Option Value} (KX : (KF w.params).In s.heap) (T : Top p loose mean mg mb s.heap) (hν : ν.Ok) (hm : ∀ w d m r, mt w d m = some r -> r.val ν = ((SI.quo w d).val ν).fmod m) : Sit (glOf w s mg mb ν mt) := by
 have g' : (y6q s.heap qc4).Ns mainGlobals mg := qr5 T.g (by decide)
 have b' : (y6q s.heap qc4).Ns builtinsNs mb := qr5 T.b (by decide)
 have l' : (y6q s.heap qc4).NoLimit := by
  obtain ⟨mc, h1, h2⟩ := T.nolimit
  exact ⟨mc, qr5 h1 (by decide), h2⟩
 obtain ⟨bm, ob, q1, q2, q3, q4, q5, q6⟩ := T.bmain
 refine ⟨⟨g', b', l', T.builtins, hν, hm⟩, kg_in KX, jg2 KX, ⟨p, loose, g', b', l', T.builtins, T.free⟩, ⟨bm, ob, q1, q2, ?_, q4, q5, q6⟩, rfl, rfl, qk4 (jl6 KX) (by decide), qk4 (jl5 KX) (by decide), qk4 (jl7 KX) (by decide)⟩
 show (y6q s.heap qc4).get? bm = some ob
 rw [z1q, if_neg]
 . exact q3
 . intro m
   rw [xs2 KX bm m] at q3
   obtain rfl := w4z q3
   cases q4
theorem je7 {cx : Cx} {V : List Addr} {st : St} {s' : Shared} {ok : Option KD} (KX : (KF w.params).In s.heap) (he : qx1 st = true) (I : Inv (glOf w s mg mb ν mt) cx V st s') (K : KIn (glOf w s mg mb ν mt) V s'.heap ok) : OldK s.heap s'.heap /\ s'.os = s.os /\ s'.gens = #[] := by
 refine ⟨?_, I.os, I.gens⟩
 have tabs : ∀ i a, i < 3 -> [207, 217, 195][i]? = some a -> zf1 (st.H.t.get i) = true -> ∃ vs, s'.heap.get? a = some (tabObj vs) := by
  intro i a hi ha hx
  obtain ⟨ps, e⟩ := xx8 hx
  obtain ⟨b, o, h1, h2, vs, h3, rfl⟩ := I.heap i _ e
  have := I.tabs.get (i := i) (a := a) ha
  rw [this] at h1
  obtain rfl := w4z h1
  exact ⟨_, h2⟩
 obtain ⟨e0, e1⟩ := Bool.and_eq_true_iff.mp he
 obtain ⟨e1, e2⟩ := Bool.and_eq_true_iff.mp e1
 have grown : ∀ a ∈ qc4, ∃ vs, s'.heap.get? a = some (tabObj vs) := by
  intro a ha
  simp only [qc4, List.mem_cons, List.not_mem_nil, or_false] at ha
  rcases ha with rfl | rfl | rfl | rfl
  . exact tabs 0 _ (by decide) rfl e0
  . induction ok with
    | none => exact ⟨_, K.ks⟩
    | some k => exact ⟨_, K.ks.1⟩
  . exact tabs 1 _ (by decide) rfl e1
  . exact tabs 2 _ (by decide) rfl e2
 have ct : ∀ a ∈ qc4, isCodeTable s.heap a := by
  intro a ha
  have := xs2 KX a ha
  simp only [qc4, List.mem_cons, List.not_mem_nil, or_false] at ha
  rcases ha with rfl | rfl | rfl | rfl
  . exact ((jl6 KX).tab this).isCodeTable
  . exact ((cd41' KX).tab this).isCodeTable
  . exact ((jl5 KX).tab this).isCodeTable
  . exact ((jl7 KX).tab this).isCodeTable
 have key : ∀ b o, s.heap.get? b = some o -> b ∉ qc4 -> s'.heap.get? b = some o := by
  intro b o e m
  refine I.base b o ?_
  show (y6q s.heap qc4).get? b = some o
  rw [z1q, if_neg m]
  exact e
 refine ⟨fun b o e => ?_, fun b o e => ?_⟩
 . by_cases m : b ∈ qc4
   . obtain ⟨vs, h1⟩ := grown b m
     rw [xs2 KX b m] at e
     obtain rfl := w4z e
     exact .inr (.inl ⟨ct b m, rfl, #[], vs, rfl, by rw [h1]; simp⟩)
   . exact .inl (key b o e m)
 . by_cases m : b ∈ qc4
   . obtain ⟨vs, h1⟩ := grown b m
     exact ⟨_, h1⟩
   . exact ⟨o, key b o e m⟩
end
theorem xe5 {w : World} {s : Shared} {mg mb : Str -> Option Value} {ν : Vl} {mt : Bool -> Nat -> Int -> Option SI} {p : Program} {loose : List Str} {mean : ExcName -> Option Value} {l : Addr} {vs : List Value} {ns : List AV} {Q E : VP}
 (KX : (KF w.params).In s.heap) (T : Top p loose mean mg mb s.heap) (hg : s.gens = #[]) (hL : s.heap.IsList l vs.toArray) (hlen : vs.length <= 63) (hν : ν.Ok) (hm : ∀ w d m r, mt w d m = some r -> r.val ν = ((SI.quo w d).val ν).fmod m)
 (hr : ∀ V, reps ν V ns (vs.take 2)) (h2 : ns.length <= 2) (hev : ∀ l, qi6 (zu4 mt (stF ns l)) = true) (hQ : ∀ s', OldK s.heap s'.heap -> s'.os = s.os -> s'.gens = #[] -> Q (.bool true) s') :
 wpAny (model PySem.Challenge.rw_ik0059_01.prog w) callerA (call (.ref 227) [.ref l]) Q E s := by
 have hT := xs2 KX
 refine zv0 (g := glOf w s mg mb ν mt) (vs := vs) (ns := ns) (jg5 KX T hν hm) (fun b o e => ?_) T.b (fun a ha => ?_) (hT 37 (by decide)) ?_ hg rfl rfl ?_ hlen hr h2 hev (fun cx ρ' st' s' ok' he I K => ?_)
 . have e' : (y6q s.heap qc4).get? b = some o := e
   rw [z1q] at e'
   split at e'
   . cases e'
   . exact e'
 . have m : a ∈ qc4 := by
    simp only [List.mem_cons, List.not_mem_nil, or_false] at ha
    rcases ha with rfl | rfl | rfl <;> decide
   refine ⟨hT a m, ?_⟩
   show (y6q s.heap qc4).get? a = none
   rw [z1q, if_pos m]
 . show (y6q s.heap qc4).get? 37 = none
   rw [z1q, if_pos (by decide)]
 . obtain ⟨o, h1, h2, n, h3⟩ := hL
   refine ⟨o, n, ?_, h2, h3⟩
   show (y6q s.heap qc4).get? l = some o
   rw [z1q, if_neg]
   . exact h1
   . intro m
     rw [hT l m] at h1
     obtain rfl := w4z h1
     cases h2
 . obtain ⟨h1, h2, h3⟩ := je7 KX he I K
   exact hQ s' h1 h2 h3
noncomputable def Ev (k a0 a1 n1 p1 : Nat) : Prop := ∀ l, qi6 (zu4 (mtOf a0 a1 n1 p1) (stF (numsOf k) l)) = true
theorem lt3 {x : Int} : ∃ a : Nat, a < 3 /\ x.fmod 3 = Int.ofNat a := by
 have h1 := Int.fmod_nonneg_of_pos x (b := 3) (by decide)
 have h2 := Int.fmod_lt_of_pos x (b := 3) (by decide)
 exact ⟨(x.fmod 3).toNat, by exact (Int.toNat_lt (by assumption)).mpr (by assumption), by show _ = (((x.fmod 3).toNat : Nat) : Int); exact (Int.toNat_of_nonneg (by assumption)).symm⟩
theorem lt4 {x : Int} : ∃ a : Nat, a < 4 /\ x.fmod 4 = Int.ofNat a := by
 have h1 := Int.fmod_nonneg_of_pos x (b := 4) (by decide)
 have h2 := Int.fmod_lt_of_pos x (b := 4) (by decide)
 exact ⟨(x.fmod 4).toNat, by exact (Int.toNat_lt (by assumption)).mpr (by assumption), by show _ = (((x.fmod 4).toNat : Nat) : Int); exact (Int.toNat_of_nonneg (by assumption)).symm⟩
theorem lt2 {x : Int} : ∃ a : Nat, a < 2 /\ x.fmod 2 = Int.ofNat a := by
 have h1 := Int.fmod_nonneg_of_pos x (b := 2) (by decide)
 have h2 := Int.fmod_lt_of_pos x (b := 2) (by decide)
 exact ⟨(x.fmod 2).toNat, by exact (Int.toNat_lt (by assumption)).mpr (by assumption), by show _ = (((x.fmod 2).toNat : Nat) : Int); exact (Int.toNat_of_nonneg (by assumption)).symm⟩
theorem zd4 {x0 x1 : Int} {a0 a1 n1 p1 : Nat} (h0 : x0.fmod 3 = Int.ofNat a0) (h1 : x1.fmod 3 = Int.ofNat a1) (h2 : (x1.fdiv 3).fmod 4 = Int.ofNat n1) (h3 : (x1.fdiv 5).fmod 2 = Int.ofNat p1) (w : Bool) (d : Nat) (m : Int) (r : SI) (h : mtOf a0 a1 n1 p1 w d m = some r) :
 r.val ⟨x0, x1, (x0.fdiv 12).fmod 256, (x1.fdiv 12).fmod 256⟩ = ((SI.quo w d).val ⟨x0, x1, (x0.fdiv 12).fmod 256, (x1.fdiv 12).fmod 256⟩).fmod m := by
 unfold mtOf at h
 induction w with
 | false =>
  dsimp only at h
  split at h
  . rename_i z; obtain ⟨rfl, rfl⟩ := z; obtain rfl := w4z h
    show Int.ofNat a0 + 0 * _ + 0 * _ = (x0.fdiv 1).fmod 3
    rw [Int.fdiv_one, h0]; simp
  . split at h
    . rename_i z; obtain ⟨rfl, rfl⟩ := z; obtain rfl := w4z h
      show 0 + 1 * (x0.fdiv 12).fmod 256 + 0 * _ = (x0.fdiv 12).fmod 256
      simp
    . split at h
      . rename_i z; obtain ⟨rfl, rfl⟩ := z; obtain rfl := w4z h
        show (0 : Int) + 0 * _ + 0 * _ = (x0.fdiv 5).fmod 1
        rw [Int.fmod_one]; simp
      . exact q6q h
 | true =>
  dsimp only at h
  split at h
  . rename_i z; obtain ⟨rfl, rfl⟩ := z; obtain rfl := w4z h
    show Int.ofNat a1 + 0 * _ + 0 * _ = (x1.fdiv 1).fmod 3
    rw [Int.fdiv_one, h1]; simp
  . split at h
    . rename_i z; obtain ⟨rfl, rfl⟩ := z; obtain rfl := w4z h
      show Int.ofNat n1 + 0 * _ + 0 * _ = (x1.fdiv 3).fmod 4
      rw [h2]; simp
    . split at h
      . rename_i z; obtain ⟨rfl, rfl⟩ := z; obtain rfl := w4z h
        show 0 + 0 * (x0.fdiv 12).fmod 256 + 1 * (x1.fdiv 12).fmod 256 = (x1.fdiv 12).fmod 256
        simp
      . split at h
        . rename_i z; obtain ⟨rfl, rfl⟩ := z; obtain rfl := w4z h
          show (0 : Int) + 0 * _ + 0 * _ = (x1.fdiv 12).fmod 1
          rw [Int.fmod_one]; simp
        . split at h
          . rename_i z; obtain ⟨rfl, rfl⟩ := z; obtain rfl := w4z h
            show Int.ofNat p1 + 0 * _ + 0 * _ = (x1.fdiv 5).fmod 2
            rw [h3]; simp
          . exact q6q h
theorem zt1 (x0 x1 : Int) : Vl.Ok ⟨x0, x1, (x0.fdiv 12).fmod 256, (x1.fdiv 12).fmod 256⟩ :=
 ⟨Int.fmod_nonneg_of_pos _ (by decide), Int.fmod_lt_of_pos _ (by decide), Int.fmod_nonneg_of_pos _ (by decide), Int.fmod_lt_of_pos _ (by decide)⟩
theorem law_call {w : World} {s : Shared} {mg mb : Str -> Option Value} {p : Program} {loose : List Str} {mean : ExcName -> Option Value} {l : Addr} {vs : List Value} {ns : List Int} {Q E : VP}
 (ev0 : Ev 0 0 0 0 0) (ev1 : ∀ a0, a0 < 3 -> Ev 1 a0 0 0 0) (ev2 : ∀ a0 a1 n1 p1, a0 < 3 -> a1 < 3 -> n1 < 4 -> p1 < 2 -> Ev 2 a0 a1 n1 p1)
 (KX : (KF w.params).In s.heap) (T : Top p loose mean mg mb s.heap) (hg : s.gens = #[]) (hL : s.heap.IsList l vs.toArray) (hI : IntsAre vs ns) (hlen : ns.length <= 63)
 (hQ : ∀ s', OldK s.heap s'.heap -> s'.os = s.os -> s'.gens = #[] -> Q (.bool true) s') :
 wpAny (model PySem.Challenge.rw_ik0059_01.prog w) callerA (call (.ref 227) [.ref l]) Q E s := by
 have hvl : vs.length <= 63 := by
  have : vs.length = ns.length := by
   clear hlen hL
   induction hI with
   | nil => rfl
   | cons n t _ ih => simp [ih]
  exact Nat.le_trans (Nat.le_of_eq (by assumption)) (Nat.le_trans (by assumption) (by decide))
 induction hI with
 | nil => exact xe5 (ns := numsOf 0) KX T hg hL hvl (zt1 0 0) (zd4 (x0 := 0) (x1 := 0) (a0 := 0) (a1 := 0) (n1 := 0) (p1 := 0) rfl rfl rfl rfl) (fun _ => trivial) (by decide) ev0 hQ
 | cons x0 t0 h =>
  obtain ⟨a0, b0, c0⟩ := lt3 (x := x0)
  induction h with
  | nil =>
   refine xe5 (ns := numsOf 1) KX T hg hL hvl (zt1 x0 0) (zd4 (x0 := x0) (x1 := 0) (a0 := a0) (a1 := 0) (n1 := 0) (p1 := 0) c0 rfl rfl rfl) (fun _ => ⟨⟨t0, ?_⟩, trivial⟩) (by simp [numsOf]) (ev1 a0 b0) hQ
   show Value.int x0 t0 = .int (x0.fdiv 1) t0
   rw [Int.fdiv_one]
  | cons x1 t1 h =>
   obtain ⟨a1, b1, c1⟩ := lt3 (x := x1)
   obtain ⟨n1, b2, c2⟩ := lt4 (x := x1.fdiv 3)
   obtain ⟨p1, b3, c3⟩ := lt2 (x := x1.fdiv 5)
   refine xe5 (ns := numsOf 2) KX T hg hL hvl (zt1 x0 x1) (zd4 c0 c1 c2 c3) (fun _ => ⟨⟨t0, ?_⟩, ⟨t1, ?_⟩, trivial⟩) (by simp [numsOf]) (ev2 a0 a1 n1 p1 b0 b1 b2 b3) hQ
   . show Value.int x0 t0 = .int (x0.fdiv 1) t0
     rw [Int.fdiv_one]
   . show Value.int x1 t1 = .int (x1.fdiv 1) t1
     rw [Int.fdiv_one]
end Mine
section
open PySem.W.X
set_option maxHeartbeats 8000000
theorem Mine.hold1 (ev0 : Mine.Ev 0 0 0 0 0) (ev1 : ∀ a0, a0 < 3 -> Mine.Ev 1 a0 0 0 0) (ev2 : ∀ a0 a1 n1 p1, a0 < 3 -> a1 < 3 -> n1 < 4 -> p1 < 2 -> Mine.Ev 2 a0 a1 n1 p1) : PySem.Challenge.rw_ik0059_01.Holds := by
 w_on
 refine holds_law (by decide +kernel) fun said => ?_
 refine holds_open (q := Mine.myView) (loose := Mine.myLoose) (Xt := Mine.myXt) (XP := XL Mine.myView []) (Yf := Hook.obs Mine.myHook) (Ya := Hook.val Mine.myHook) (YP := Hook.says Mine.myHook) (N := 3200) Mine.left_ok (Hook.of Mine.myHook) (Hook.keeps Mine.myHook) (fun s e => xl_of s (Bool.and_eq_true_iff.mp e).1) XL.keeps (by rfl) (by rfl) (by rfl) (fun s e => recFacts_of (Bool.and_eq_true_iff.mp e).2) (by rfl) (by first | assumption | decide +kernel) (by decide +kernel) ⟨rfl, rfl, rfl, rfl, rfl, by decide +kernel⟩ ?hw ?hc
 case hw => w_witness2
 case hc =>
  intro w sO s₁ mg mb G Y fa o pm cd doc dV kV ho hd hcd hD hmg hg args vals as hpre hlay hrd hwl hlo
  have KX := kIn_of Y
  refine Ground.open G ?_
  intro T B D TE TW
  wrow_args hpre hlay hrd hwl hlo
  all_goals x_fa T KX hmg
  refine Mine.law_call ev0 ev1 ev2 KX T hg (by assumption) (by assumption) (by omega) fun s' h1 h2 h3 => ?_
  refine ⟨.inl ⟨_, _, [], rfl, fun _ => rfl, ReadsW.bool true, ?_, fun _ => ⟨List.nodup_nil, fun _ hm => (nomatch hm)⟩⟩, h1, h2, .of_eq h3⟩
  first
   | rfl
   | wrow_post
end
namespace Mine
theorem ev00000 : Ev 0 0 0 0 0 := fun l => by kernel_rfl
theorem ev10000 : Ev 1 0 0 0 0 := fun l => by kernel_rfl
theorem ev11000 : Ev 1 1 0 0 0 := fun l => by kernel_rfl
theorem ev12000 : Ev 1 2 0 0 0 := fun l => by kernel_rfl
theorem je6 : Ev 2 0 0 0 0 := fun l => by kernel_rfl
theorem je5 : Ev 2 0 0 0 1 := fun l => by kernel_rfl
theorem je4 : Ev 2 0 0 1 0 := fun l => by kernel_rfl
theorem je3 : Ev 2 0 0 1 1 := fun l => by kernel_rfl
theorem je2 : Ev 2 0 0 2 0 := fun l => by kernel_rfl
theorem je1 : Ev 2 0 0 2 1 := fun l => by kernel_rfl
theorem je0 : Ev 2 0 0 3 0 := fun l => by kernel_rfl
theorem jd9 : Ev 2 0 0 3 1 := fun l => by kernel_rfl
theorem jd8 : Ev 2 0 1 0 0 := fun l => by kernel_rfl
theorem jd7 : Ev 2 0 1 0 1 := fun l => by kernel_rfl
theorem jd6 : Ev 2 0 1 1 0 := fun l => by kernel_rfl
theorem jd5 : Ev 2 0 1 1 1 := fun l => by kernel_rfl
theorem jd4 : Ev 2 0 1 2 0 := fun l => by kernel_rfl
theorem jd3 : Ev 2 0 1 2 1 := fun l => by kernel_rfl
theorem jd2 : Ev 2 0 1 3 0 := fun l => by kernel_rfl
theorem jd1 : Ev 2 0 1 3 1 := fun l => by kernel_rfl
theorem jd0 : Ev 2 0 2 0 0 := fun l => by kernel_rfl
theorem jc9 : Ev 2 0 2 0 1 := fun l => by kernel_rfl
theorem jc8 : Ev 2 0 2 1 0 := fun l => by kernel_rfl
theorem jc7 : Ev 2 0 2 1 1 := fun l => by kernel_rfl
theorem jc6 : Ev 2 0 2 2 0 := fun l => by kernel_rfl
theorem jc5 : Ev 2 0 2 2 1 := fun l => by kernel_rfl
theorem jc4 : Ev 2 0 2 3 0 := fun l => by kernel_rfl
theorem jc3 : Ev 2 0 2 3 1 := fun l => by kernel_rfl
theorem jc2 : Ev 2 1 0 0 0 := fun l => by kernel_rfl
theorem jc1 : Ev 2 1 0 0 1 := fun l => by kernel_rfl
theorem jc0 : Ev 2 1 0 1 0 := fun l => by kernel_rfl
theorem jb9 : Ev 2 1 0 1 1 := fun l => by kernel_rfl
theorem jb8 : Ev 2 1 0 2 0 := fun l => by kernel_rfl
theorem jb7 : Ev 2 1 0 2 1 := fun l => by kernel_rfl
theorem jb6 : Ev 2 1 0 3 0 := fun l => by kernel_rfl
theorem jb5 : Ev 2 1 0 3 1 := fun l => by kernel_rfl
theorem jb4 : Ev 2 1 1 0 0 := fun l => by kernel_rfl
theorem jb3 : Ev 2 1 1 0 1 := fun l => by kernel_rfl
theorem jb2 : Ev 2 1 1 1 0 := fun l => by kernel_rfl
theorem jb1 : Ev 2 1 1 1 1 := fun l => by kernel_rfl
theorem jb0 : Ev 2 1 1 2 0 := fun l => by kernel_rfl
theorem ja9 : Ev 2 1 1 2 1 := fun l => by kernel_rfl
theorem ja8 : Ev 2 1 1 3 0 := fun l => by kernel_rfl
theorem ja7 : Ev 2 1 1 3 1 := fun l => by kernel_rfl
theorem ja6 : Ev 2 1 2 0 0 := fun l => by kernel_rfl
theorem ja5 : Ev 2 1 2 0 1 := fun l => by kernel_rfl
theorem ja4 : Ev 2 1 2 1 0 := fun l => by kernel_rfl
theorem ja3 : Ev 2 1 2 1 1 := fun l => by kernel_rfl
theorem ja2 : Ev 2 1 2 2 0 := fun l => by kernel_rfl
theorem ja1 : Ev 2 1 2 2 1 := fun l => by kernel_rfl
theorem ja0 : Ev 2 1 2 3 0 := fun l => by kernel_rfl
theorem zz9 : Ev 2 1 2 3 1 := fun l => by kernel_rfl
theorem zz8 : Ev 2 2 0 0 0 := fun l => by kernel_rfl
theorem zz7 : Ev 2 2 0 0 1 := fun l => by kernel_rfl
theorem zz6 : Ev 2 2 0 1 0 := fun l => by kernel_rfl
theorem zz5 : Ev 2 2 0 1 1 := fun l => by kernel_rfl
theorem zz4 : Ev 2 2 0 2 0 := fun l => by kernel_rfl
theorem zz3 : Ev 2 2 0 2 1 := fun l => by kernel_rfl
theorem zz2 : Ev 2 2 0 3 0 := fun l => by kernel_rfl
theorem zz1 : Ev 2 2 0 3 1 := fun l => by kernel_rfl
theorem zz0 : Ev 2 2 1 0 0 := fun l => by kernel_rfl
theorem zy9 : Ev 2 2 1 0 1 := fun l => by kernel_rfl
theorem zy8 : Ev 2 2 1 1 0 := fun l => by kernel_rfl
theorem zy7 : Ev 2 2 1 1 1 := fun l => by kernel_rfl
theorem zy6 : Ev 2 2 1 2 0 := fun l => by kernel_rfl
theorem zy5 : Ev 2 2 1 2 1 := fun l => by kernel_rfl
theorem zy4 : Ev 2 2 1 3 0 := fun l => by kernel_rfl
theorem zy3 : Ev 2 2 1 3 1 := fun l => by kernel_rfl
theorem zy2 : Ev 2 2 2 0 0 := fun l => by kernel_rfl
theorem zy1 : Ev 2 2 2 0 1 := fun l => by kernel_rfl
theorem zy0 : Ev 2 2 2 1 0 := fun l => by kernel_rfl
theorem zx9 : Ev 2 2 2 1 1 := fun l => by kernel_rfl
theorem zx8 : Ev 2 2 2 2 0 := fun l => by kernel_rfl
theorem zx7 : Ev 2 2 2 2 1 := fun l => by kernel_rfl
theorem zx6 : Ev 2 2 2 3 0 := fun l => by kernel_rfl
theorem zx5 : Ev 2 2 2 3 1 := fun l => by kernel_rfl
theorem lt2c {P : Nat -> Prop} (h0 : P 0) (h1 : P 1) : ∀ a, a < 2 -> P a
 | 0, _ => h0
 | 1, _ => h1
theorem lt3c {P : Nat -> Prop} (h0 : P 0) (h1 : P 1) (h2 : P 2) : ∀ a, a < 3 -> P a
 | 0, _ => h0
 | 1, _ => h1
 | 2, _ => h2
theorem lt4c {P : Nat -> Prop} (h0 : P 0) (h1 : P 1) (h2 : P 2) (h3 : P 3) : ∀ a, a < 4 -> P a
 | 0, _ => h0
 | 1, _ => h1
 | 2, _ => h2
 | 3, _ => h3
theorem ev20 : ∀ a1, a1 < 3 -> ∀ n1, n1 < 4 -> ∀ p1, p1 < 2 -> Ev 2 0 a1 n1 p1 := lt3c (lt4c (lt2c je6 je5) (lt2c je4 je3) (lt2c je2 je1) (lt2c je0 jd9)) (lt4c (lt2c jd8 jd7) (lt2c jd6 jd5) (lt2c jd4 jd3) (lt2c jd2 jd1)) (lt4c (lt2c jd0 jc9) (lt2c jc8 jc7) (lt2c jc6 jc5) (lt2c jc4 jc3))
theorem ev21 : ∀ a1, a1 < 3 -> ∀ n1, n1 < 4 -> ∀ p1, p1 < 2 -> Ev 2 1 a1 n1 p1 := lt3c (lt4c (lt2c jc2 jc1) (lt2c jc0 jb9) (lt2c jb8 jb7) (lt2c jb6 jb5)) (lt4c (lt2c jb4 jb3) (lt2c jb2 jb1) (lt2c jb0 ja9) (lt2c ja8 ja7)) (lt4c (lt2c ja6 ja5) (lt2c ja4 ja3) (lt2c ja2 ja1) (lt2c ja0 zz9))
theorem ev22 : ∀ a1, a1 < 3 -> ∀ n1, n1 < 4 -> ∀ p1, p1 < 2 -> Ev 2 2 a1 n1 p1 := lt3c (lt4c (lt2c zz8 zz7) (lt2c zz6 zz5) (lt2c zz4 zz3) (lt2c zz2 zz1)) (lt4c (lt2c zz0 zy9) (lt2c zy8 zy7) (lt2c zy6 zy5) (lt2c zy4 zy3)) (lt4c (lt2c zy2 zy1) (lt2c zy0 zx9) (lt2c zx8 zx7) (lt2c zx6 zx5))
end Mine
set_option maxRecDepth 100000 in
set_option maxHeartbeats 8000000 in
theorem PySem.Challenge.cw_ik0059_01_holds : PySem.Challenge.rw_ik0059_01.Holds :=
 Mine.hold1 Mine.ev00000 (Mine.lt3c Mine.ev10000 Mine.ev11000 Mine.ev12000) fun a0 a1 n1 p1 h0 h1 h2 h3 => Mine.lt3c (P := fun a0 => ∀ a1, a1 < 3 -> ∀ n1, n1 < 4 -> ∀ p1, p1 < 2 -> Mine.Ev 2 a0 a1 n1 p1) Mine.ev20 Mine.ev21 Mine.ev22 a0 h0 a1 h1 n1 h2 p1 h3
